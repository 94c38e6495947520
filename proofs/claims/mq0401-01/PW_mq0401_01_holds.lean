import PyProof.Rows.All
import Wide.All
import OpenK.AllK
import Wide.FinOn
import Lean
import PySem.Challenge.RW_mq0401_01
open PySem PySem.W PyProof.Rows
set_option Elab.async false
set_option maxRecDepth 100000
set_option maxHeartbeats 8000000
set_option linter.unusedVariables false
set_option genInjectivity false
set_option genSizeOf false
namespace Mine
section M1
theorem no {α : Type} {b : α} {C : Prop} (h : (none : Option α) = some b) : C := nomatch h
theorem nof {C : Prop} (h : false = true) : C := nomatch h
theorem nlt {n i k : Nat} (h : n - i = k + 1) : i < n := by omega
theorem nend {n i : Nat} (h : n - i = 0) (hi : i ≤ n) : i = n := by omega
theorem nsub {n i k : Nat} (h : n - i = k + 1) : n - (i + 1) = k := congrArg Nat.pred h
theorem npred {n i : Nat} (h : i < n) : n - i = n - (i + 1) + 1 := (Nat.succ_pred_eq_of_pos (Nat.sub_pos_of_lt h)).symm
theorem nsum {n i : Nat} (h : i < n) : n = i + 1 + (n - (i + 1)) := (Nat.add_sub_of_le h).symm
theorem nsum_eq {n i i' m : Nat} (hm : n - i = m + 1) (h : n = i' + 1 + m) : i' = i := by
  have lt : i < n := Nat.lt_of_sub_ne_zero (by rw [hm]; exact Nat.succ_ne_zero m)
  have e : n = m + 1 + i := Nat.eq_add_of_sub_eq (Nat.le_of_lt lt) hm
  rw [h, Nat.add_assoc, Nat.add_comm 1 m, Nat.add_comm] at e
  exact Nat.add_left_cancel e
theorem rd0 {a D l : Nat} (h : a + (D + 1) < l) : a < l := Nat.lt_of_le_of_lt (Nat.le_add_right ..) h
theorem rdD {a D l : Nat} (h : a + (D + 1) < l) : a + D < l := Nat.lt_of_succ_lt h
theorem rd1 {a D l : Nat} (h : a + (D + 1) < l) : a + 1 + D < l := by rw [Nat.add_assoc, Nat.add_comm 1 D]; exact h
theorem ru {u D l k : Nat} (hk : k ≤ 8) (h : u + 8 * (D + 1) + 120 < l) : u + k + 8 * D + 120 < l := by
  refine Nat.lt_of_le_of_lt (Nat.add_le_add_right ?_ 120) h
  show u + k + 8 * D ≤ u + (8 * D + 8)
  rw [Nat.add_assoc, Nat.add_comm k]
  exact Nat.add_le_add_left (Nat.add_le_add_left hk _) u
theorem ru1 {u x l : Nat} (h : u + 1 + x + 120 < l) : u + x + 120 < l := Nat.lt_of_le_of_lt (Nat.add_le_add_right (Nat.add_le_add_right (Nat.le_succ u) x) 120) h
theorem rle {u x y z l : Nat} (h : x ≤ y) (q : u + y + z < l) : u + x + z < l := Nat.lt_of_le_of_lt (Nat.add_le_add_right (Nat.add_le_add_left h u) z) q
theorem sizeM : 1000000 ≤ sizeLine := by rw [sizeLine_eq]; omega
theorem ndec {n i : Nat} (h : i < n) : n + 1 - (i + 1) < n + 1 - i := Nat.sub_lt_sub_left (Nat.lt_succ_of_lt h) (Nat.lt_succ_self i)
theorem ob {α β : Type} {o : Option α} {f : α → Option β} {b : β} (h : o.bind f = some b) : ∃ a, o = some a ∧ f a = some b := Option.bind_eq_some_iff.mp h
theorem oi {α : Type} {p : Prop} [Decidable p] {x : Option α} {b : α} (h : (if p then x else none) = some b) : p ∧ x = some b := by
  by_cases hp : p
  · rw [if_pos hp] at h; exact ⟨hp, h⟩
  · rw [if_neg hp] at h; exact no h
theorem oe {α : Type} {p : Prop} [Decidable p] {x : Option α} {b : α} (h : (if p then none else x) = some b) : ¬ p ∧ x = some b := by
  by_cases hp : p
  · rw [if_pos hp] at h; exact no h
  · rw [if_neg hp] at h; exact ⟨hp, h⟩
theorem map_some {α β : Type} {f : α → β} {o : Option α} {b : β} (h : o.map f = some b) : ∃ a, o = some a ∧ f a = b := Option.map_eq_some_iff.mp h
noncomputable def two {α β γ : Type} (x : Option α) (y : Option β) (f : α → β → Option γ) : Option γ := x.bind fun a => y.bind fun b => f a b
theorem two_is {α β γ : Type} {x : Option α} {y : Option β} {f : α → β → Option γ} {c : γ} (h : two x y f = some c) : ∃ a b, x = some a ∧ y = some b ∧ f a b = some c := by
  obtain ⟨a, h1, h⟩ := ob h
  obtain ⟨b, h2, h⟩ := ob h
  exact ⟨a, b, h1, h2, h⟩
set_option backward.match.sparseCases false in
noncomputable def one {α : Type} : List α → Option α
  | [] => none
  | x :: r => if r.isEmpty then some x else none
theorem one_is {α : Type} {l : List α} {x : α} (h : one l = some x) : l = [x] := by
  cases l with
  | nil => exact no h
  | cons y r => obtain ⟨h1, h2⟩ := oi h; cases h2; rw [List.isEmpty_iff.mp h1]
noncomputable def topN : Nat := 800
noncomputable def lamTab : Nat := 796
inductive Same (N : Nat) (b : Addr) (o : Obj) : Option Obj → Prop
  | same : Same N b o (some o)
  | slots (sl : Array (Option Value)) : N ≤ b → o.cls = .type "frame" → Same N b o (some { o with slots := sl })
  | tab (vs more : Array Value) : b < topN → b ≠ lamTab → o = X.tableObj vs → (TriplesOk vs.toList → TriplesOk (vs ++ more).toList) → Same N b o (some (X.tableObj (vs ++ more)))
structure Keep (N : Nat) (T : List Addr) (h h' : Heap) : Prop where
  off : ∀ b o, b ∉ T → h.get? b = some o → Same N b o (h'.get? b)
  there : ∀ b o, h.get? b = some o → ∃ o', h'.get? b = some o'
theorem Keep.refl {N : Nat} {T : List Addr} (h : Heap) : Keep N T h h := ⟨fun _ _ _ e => by rw [e]; exact .same, fun _ o e => ⟨o, e⟩⟩
theorem Keep.of_all {N : Nat} {T : List Addr} {h h' : Heap} (k : ∀ b o, h.get? b = some o → h'.get? b = some o) : Keep N T h h' :=
  ⟨fun b o n e => by rw [k b o e]; exact .same, fun b o e => ⟨o, k b o e⟩⟩
theorem Same.trans {N : Nat} {b : Addr} {o : Obj} {r r' : Option Obj} (x : Same N b o r) (y : ∀ o', r = some o' → Same N b o' r') : Same N b o r' := by
  cases x with
  | same => exact y _ rfl
  | slots sl hb hc =>
    have z := y _ rfl
    cases z with
    | same => exact .slots sl hb hc
    | slots sl' _ _ => exact .slots sl' hb hc
    | tab vs more lt nl q tr => have := congrArg Obj.cls q; rw [show ({ o with slots := sl } : Obj).cls = o.cls from rfl, hc] at this; cases this
  | tab vs more lt nl q tr =>
    have z := y _ rfl
    cases z with
    | same => exact .tab vs more lt nl q tr
    | slots sl' _ hc => cases hc
    | tab vs' more' _ _ q' tr' =>
      have : vs' = vs ++ more := by
        have := congrArg Obj.data q'
        injection this with this; exact this.symm
      subst this
      have tr2 := fun h => tr' (tr h)
      rw [Array.append_assoc] at tr2 ⊢
      exact .tab vs _ lt nl q tr2
theorem Keep.trans {N : Nat} {T : List Addr} {h h' h'' : Heap} (x : Keep N T h h') (y : Keep N T h' h'') : Keep N T h h'' :=
  ⟨fun b o n e => (x.off b o n e).trans fun o' e' => y.off b o' n e', fun b o e => let ⟨o', e'⟩ := x.there b o e; y.there b o' e'⟩
theorem Keep.sub {N : Nat} {T T' : List Addr} {h h' : Heap} (x : Keep N T h h') (s : ∀ b ∈ T, b ∈ T') : Keep N T' h h' := ⟨fun b o n e => x.off b o (fun q => n (s b q)) e, x.there⟩
theorem Keep.all {N : Nat} {T : List Addr} {h h' : Heap} (x : Keep N [] h h') : Keep N T h h' := x.sub (fun _ q => nomatch q)
theorem Keep.exact {N : Nat} {T : List Addr} {h h' : Heap} (x : Keep N T h h') {b : Addr} {o : Obj} (n : b ∉ T) (e : h.get? b = some o) (h1 : o.cls ≠ .type "frame") (h2 : o.cls ≠ .none) : h'.get? b = some o := by
  have q := x.off b o n e
  generalize h'.get? b = r at q
  cases q with
  | same => rfl
  | slots sl _ hc => exact absurd hc h1
  | tab vs more lt nl q tr => exact absurd (congrArg Obj.cls q) h2
theorem Keep.low {N : Nat} {T : List Addr} {h h' : Heap} (x : Keep N T h h') {b : Addr} {o : Obj} (n : b ∉ T) (e : h.get? b = some o) (h1 : b < N) (h2 : ∀ vs, o ≠ X.tableObj vs) : h'.get? b = some o := by
  have q := x.off b o n e
  generalize h'.get? b = r at q
  cases q with
  | same => rfl
  | slots sl hb hc => exact absurd hb (Nat.not_le.mpr h1)
  | tab vs more lt nl q tr => exact absurd q (h2 vs)
theorem Keep.ns {N : Nat} {T : List Addr} {h h' : Heap} (x : Keep N T h h') {L : Addr} {m : Str → Option Value} (n : L ∉ T) (e : h.Ns L m) : h'.Ns L m := by
  obtain ⟨o, es, ep, ho, hd, hk, hf⟩ := e
  have q := x.off L o n ho
  generalize e' : h'.get? L = r at q
  cases q with
  | same => exact ⟨o, es, ep, e', hd, hk, hf⟩
  | slots sl _ _ => exact ⟨_, es, ep, e', hd, hk, hf⟩
  | tab vs more lt nl q tr => rw [q] at hd; cases hd
theorem Keep.push {N : Nat} {T : List Addr} (h : Heap) (o : Obj) : Keep N T h (h.push o) := .of_all fun _ _ e => Heap.get?_push_of_some _ e
theorem Keep.sameBut {N : Nat} {T : List Addr} {a : Addr} {h h' : Heap} {o' : Obj} (x : Heap.SameBut a h h') (ha : h'.get? a = some o') (m : a ∈ T) : Keep N T h h' :=
  ⟨fun b o n e => by rw [(x.2 b (fun q => n (q ▸ m))).trans e]; exact .same, fun b o e => by
    by_cases g : b = a
    · exact ⟨o', g ▸ ha⟩
    · exact ⟨o, (x.2 b g).trans e⟩⟩
structure FrameAt (h : Heap) (L : Addr) (m : Str → Option Value) : Prop where
  ns : h.Ns L m
  cls : ∃ o, h.get? L = some o ∧ o.cls = .type "frame"
theorem Keep.frame {N : Nat} {T : List Addr} {h h' : Heap} (x : Keep N T h h') {L : Addr} {m : Str → Option Value} (n : L ∉ T) (e : FrameAt h L m) : FrameAt h' L m := by
  refine ⟨x.ns n e.ns, ?_⟩
  obtain ⟨o, ho, hc⟩ := e.cls
  have q := x.off L o n ho
  generalize e' : h'.get? L = r at q
  cases q with
  | same => exact ⟨o, rfl, hc⟩
  | slots sl _ _ => exact ⟨_, rfl, hc⟩
  | tab vs more lt nl q tr => rw [q] at hc; cases hc
theorem put_dict (n : Str) (hs : Int) (k v : Value) (c : Value) (d : Option Addr) (es : Array DictEntry) (ep : Nat) (sl) : ∃ es' ep', Obj.putNameByArray n hs k v ⟨c, d, .dict es ep, sl⟩ = ⟨c, d, .dict es' ep', sl⟩ := by
  have e : Obj.putNameByArray n hs k v ⟨c, d, .dict es ep, sl⟩ = (match es.findIdx? (·.key.isStr n) with
    | some i => (⟨c, d, .dict (es.modify i fun e => { e with val := v }) ep, sl⟩ : Obj)
    | none => ⟨c, d, .dict (es.push ⟨hs, k, v⟩) (ep + 1), sl⟩) := rfl
  rw [e]
  generalize es.findIdx? (·.key.isStr n) = r
  cases r <;> exact ⟨_, _, rfl⟩
theorem putName_cls (n : Str) (hs : Int) (k v : Value) (o : Obj) : (o.putName n hs k v).cls = o.cls := by
  rw [Obj.putName_eq]
  obtain ⟨c, d, dt, sl⟩ := o
  cases dt with
  | dict es ep =>
    obtain ⟨es', ep', e⟩ := put_dict n hs k v c d es ep sl
    rw [e]
  | _ => rfl
theorem putName_dat (n : Str) (hs : Int) (k v : Value) (o : Obj) {es : Array DictEntry} {ep : Nat} (hd : o.data = .dict es ep) : ∃ es' ep', (o.putName n hs k v).data = .dict es' ep' := by
  rw [Obj.putName_eq]
  obtain ⟨c, d, dt, sl⟩ := o
  subst hd
  obtain ⟨es', ep', e⟩ := put_dict n hs k v c d es ep sl
  exact ⟨es', ep', by rw [e]⟩
theorem notFreed {o : Obj} {es : Array DictEntry} {ep : Nat} (hd : o.data = .dict es ep) : o.isFreed = false := by
  obtain ⟨c, d, dt, sl⟩ := o
  subst hd; rfl
theorem nsSet_frame {M : Model} {A : Around} {E : Value → Shared → Prop} {s : Shared} {L : Addr} {m : Str → Option Value} {x : Str} {v : Value} {Q : Unit → Shared → Prop} (F : FrameAt s.heap L m)
    (h : ∀ h', FrameAt h' L (fun y => if y = x then some v else m y) → Heap.SameBut L s.heap h' → Q () { s with heap := h', toks := s.toks + 1 }) : wpAny M A (nsSet L x v) Q E s := by
  intro Γ p hΓ
  obtain ⟨o, ho, hc⟩ := F.cls
  obtain ⟨o', es, ep, ho', hd, hk, hm⟩ := F.ns
  rw [ho] at ho'; cases ho'
  have one := Sem.wp_nsSet M Γ (fun _ _ _ => False) p s F.ns x v (fun _ _ s' => s'.heap.Ns L (fun y => if y = x then some v else m y)) (fun h' hn _ => hn)
  simp only [nsSet, strHash, Sem.wp_bind', Sem.wp_cmd_ask, Sem.wp_pure', Sem.wp_cmd_mkText] at one ⊢
  rw [Sem.wp_loadPart_of M Γ _ p { s with toks := s.toks + 1 } (o := o) _ ho] at one ⊢
  have hany : es.any (·.refKey) = false := by
    rw [Array.any_eq_false']; intro e he; obtain ⟨n, t, h⟩ := hk e he; simp [DictEntry.refKey, h]
  simp only [hd, aRefKeyMayBeTheName_eq, aRefKeyMayBeTheNameByArray, hany, Bool.and_false, Bool.false_eq_true, if_false, Sem.wp_cmd_updatePart] at one ⊢
  refine ⟨one.1, h _ ⟨one.2, ?_⟩ (Heap.SameBut.update ..)⟩
  obtain ⟨es', ep', hd'⟩ := putName_dat x (if x.cps.isEmpty then 0 else reduceHash (M.w.params.strHash x.cps)) (.str x s.toks) v o hd
  exact ⟨_, Heap.get?_update_self _ ho (notFreed hd'), (putName_cls ..).trans hc⟩
inductive PV where
  | v (x : Value)
  | s (x : Str)
  | i (x : Int)
  | o (k : Nat)
  | l (xs : List PV)
  | r (xs : List PV)
  | t (xs : List PV)
  /-- some object -/
  | any
  /-- a function that was made within a frame; its code and its module lie open -/
  | fn (F : FuncData)
noncomputable def FnOb (F : FuncData) (c : Addr) (ob : Obj) : Prop := ob.cls = .type "function" ∧ ∃ pm ct, ob.data = .func { F with code := .ref c, pyModule := pm, closureTuple := ct }
noncomputable def CodeOb (q : Str) (co : Obj) : Prop := (co.cls ≠ .type "frame" ∧ co.cls ≠ .none) ∧ ∃ vs t, co.data = .fields vs ∧ vs[1]? = some (.str q t)
mutual
inductive Is (T : List Addr) (ρ : List (Addr × Addr)) (h : Heap) : PV → Value → Prop
  | v (x : Value) : Is T ρ h (.v x) x
  | s (x : Str) (t : Tok) : Is T ρ h (.s x) (.str x t)
  | i (x : Int) (t : Tok) : Is T ρ h (.i x) (.int x t)
  | o {k : Nat} {a m : Addr} : ρ[k]? = some (a, m) → Is T ρ h (.o k) (.ref a)
  | l {a : Addr} {ob : Obj} {vs : Array Value} {n : Nat} {xs : List PV} : a ∉ T → h.get? a = some ob → ob.cls = .type "list" → ob.data = .seq vs n → IsL T ρ h xs vs.toList → Is T ρ h (.l xs) (.ref a)
  | r {a : Addr} {ob : Obj} {vs : Array Value} {n : Nat} {xs : List PV} : a ∉ T → h.get? a = some ob → ob.cls = .type "list" → ob.data = .seq vs n → IsL T ρ h xs vs.toList.reverse → Is T ρ h (.r xs) (.ref a)
  | t {a : Addr} {ob : Obj} {vs : Array Value} {n : Nat} {xs : List PV} : a ∉ T → h.get? a = some ob → ob.cls = .type "tuple" → ob.data = .seq vs n → IsL T ρ h xs vs.toList → Is T ρ h (.t xs) (.ref a)
  | any {a : Addr} : Is T ρ h .any (.ref a)
  | fn {a c : Addr} {ob co : Obj} {F : FuncData} : a ∉ T → h.get? a = some ob → FnOb F c ob → c ∉ T → h.get? c = some co → CodeOb F.qualname co → Is T ρ h (.fn F) (.ref a)
inductive IsL (T : List Addr) (ρ : List (Addr × Addr)) (h : Heap) : List PV → List Value → Prop
  | nil : IsL T ρ h [] []
  | cons {p : PV} {v : Value} {ps : List PV} {vs : List Value} : Is T ρ h p v → IsL T ρ h ps vs → IsL T ρ h (p :: ps) (v :: vs)
end
structure IsTo (T T' : List Addr) (ρ ρ' : List (Addr × Addr)) (h h' : Heap) : Prop where
  seq : ∀ a ob, a ∉ T → h.get? a = some ob → ob.cls ≠ .type "frame" → ob.cls ≠ .none → a ∉ T' ∧ h'.get? a = some ob
  obj : ∀ (k : Nat) (a m : Addr), ρ[k]? = some (a, m) → ρ'[k]? = some (a, m)
section
variable {T T' : List Addr} {ρ ρ' : List (Addr × Addr)} {h h' : Heap}
theorem IsTo.l (t : IsTo T T' ρ ρ' h h') {a : Addr} {ob : Obj} (n : a ∉ T) (e : h.get? a = some ob) (c : ob.cls = .type "list") : a ∉ T' ∧ h'.get? a = some ob := t.seq a ob n e (by rw [c]; decide) (by rw [c]; decide)
theorem IsTo.t (t : IsTo T T' ρ ρ' h h') {a : Addr} {ob : Obj} (n : a ∉ T) (e : h.get? a = some ob) (c : ob.cls = .type "tuple") : a ∉ T' ∧ h'.get? a = some ob := t.seq a ob n e (by rw [c]; decide) (by rw [c]; decide)
theorem IsTo.fn (t : IsTo T T' ρ ρ' h h') {F : FuncData} {a c : Addr} {ob : Obj} (n : a ∉ T) (e : h.get? a = some ob) (f : FnOb F c ob) : a ∉ T' ∧ h'.get? a = some ob := t.seq a ob n e (by rw [f.1]; decide) (by rw [f.1]; decide)
theorem Is.to (t : IsTo T T' ρ ρ' h h') {p : PV} {v : Value} (i : Is T ρ h p v) : Is T' ρ' h' p v :=
  Is.rec (motive_1 := fun p v _ => Is T' ρ' h' p v) (motive_2 := fun ps vs _ => IsL T' ρ' h' ps vs) .v .s .i (fun e => .o (t.obj _ _ _ e)) (fun n e c d _ r => .l (t.l n e c).1 (t.l n e c).2 c d r) (fun n e c d _ r => .r (t.l n e c).1 (t.l n e c).2 c d r)
    (fun n e c d _ r => .t (t.t n e c).1 (t.t n e c).2 c d r) .any (fun n e f n' e' g => .fn (t.fn n e f).1 (t.fn n e f).2 f (t.seq _ _ n' e' g.1.1 g.1.2).1 (t.seq _ _ n' e' g.1.1 g.1.2).2 g) .nil (fun _ _ a b => .cons a b) i
theorem IsL.ind {M : List PV → List Value → Prop} (nil : M [] []) (cons : ∀ {p v ps vs}, Is T ρ h p v → IsL T ρ h ps vs → M ps vs → M (p :: ps) (v :: vs)) {ps : List PV} {vs : List Value} (i : IsL T ρ h ps vs) : M ps vs :=
  IsL.rec (motive_1 := fun _ _ _ => True) (motive_2 := fun ps vs _ => M ps vs) (fun _ => trivial) (fun _ _ => trivial) (fun _ _ => trivial) (fun _ => trivial) (fun _ _ _ _ _ _ => trivial) (fun _ _ _ _ _ _ => trivial) (fun _ _ _ _ _ _ => trivial) trivial (fun _ _ _ _ _ _ => trivial) nil (fun a b _ m => cons a b m) i
theorem IsL.to (t : IsTo T T' ρ ρ' h h') {ps : List PV} {vs : List Value} (i : IsL T ρ h ps vs) : IsL T' ρ' h' ps vs := IsL.ind (M := fun ps vs => IsL T' ρ' h' ps vs) .nil (fun a _ b => .cons (a.to t) b) i
theorem Keep.to {N : Nat} (k : Keep N T h h') : IsTo T T ρ ρ h h' := ⟨fun _ _ n e h1 h2 => ⟨n, k.exact n e h1 h2⟩, fun _ _ _ e => e⟩
theorem Is.keep {N : Nat} (k : Keep N T h h') {p : PV} {v : Value} (i : Is T ρ h p v) : Is T ρ h' p v := i.to k.to
theorem IsL.keep {N : Nat} (k : Keep N T h h') {p : List PV} {v : List Value} (i : IsL T ρ h p v) : IsL T ρ h' p v := i.to k.to
theorem IsL.length {p : List PV} {v : List Value} (i : IsL T ρ h p v) : p.length = v.length := IsL.ind (M := fun p v => p.length = v.length) rfl (fun _ _ b => by rw [List.length_cons, List.length_cons, b]) i
theorem IsL.append {p p' : List PV} {v v' : List Value} (i : IsL T ρ h p v) (y : IsL T ρ h p' v') : IsL T ρ h (p ++ p') (v ++ v') := IsL.ind (M := fun p v => IsL T ρ h (p ++ p') (v ++ v')) y (fun a _ b => .cons a b) i
theorem IsL.reverse {p : List PV} {v : List Value} (i : IsL T ρ h p v) : IsL T ρ h p.reverse v.reverse := IsL.ind (M := fun p v => IsL T ρ h p.reverse v.reverse) .nil (fun a _ b => by rw [List.reverse_cons, List.reverse_cons]; exact b.append (.cons a .nil)) i
theorem IsL.drop {p : List PV} {v : List Value} (i : IsL T ρ h p v) (k : Nat) : IsL T ρ h (p.drop k) (v.drop k) := IsL.ind (M := fun p v => ∀ k, IsL T ρ h (p.drop k) (v.drop k)) (fun k => by rw [List.drop_nil, List.drop_nil]; exact .nil) (fun a r b k => match k with | 0 => .cons a r | k + 1 => b k) i k
theorem IsL.take {p : List PV} {v : List Value} (i : IsL T ρ h p v) (k : Nat) : IsL T ρ h (p.take k) (v.take k) := IsL.ind (M := fun p v => ∀ k, IsL T ρ h (p.take k) (v.take k)) (fun k => by rw [List.take_nil, List.take_nil]; exact .nil) (fun a r b k => match k with | 0 => .nil | k + 1 => .cons a (b k)) i k
theorem IsL.get {p : List PV} {v : List Value} (i : IsL T ρ h p v) {k : Nat} {x : PV} (e : p[k]? = some x) : ∃ y, v[k]? = some y ∧ Is T ρ h x y :=
  IsL.ind (M := fun p v => ∀ k, p[k]? = some x → ∃ y, v[k]? = some y ∧ Is T ρ h x y) (fun k e => no e) (fun a _ b k e => match k, e with | 0, e => (Option.some.inj e) ▸ ⟨_, rfl, a⟩ | k + 1, e => b k e) i k e
end
section
variable {T : List Addr} {ρ : List (Addr × Addr)} {h : Heap} {v : Value}
theorem Is.iv {x : Value} (i : Is T ρ h (.v x) v) : v = x := by cases i; rfl
theorem Is.is {x : Str} (i : Is T ρ h (.s x) v) : ∃ t, v = .str x t := by cases i; exact ⟨_, rfl⟩
theorem Is.ii {x : Int} (i : Is T ρ h (.i x) v) : ∃ t, v = .int x t := by cases i; exact ⟨_, rfl⟩
theorem Is.io {k : Nat} (i : Is T ρ h (.o k) v) : ∃ a m, v = .ref a ∧ ρ[k]? = some (a, m) := by cases i with | o e => exact ⟨_, _, rfl, e⟩
structure SeqI (T : List Addr) (h : Heap) (c : String) (v : Value) (a : Addr) (ob : Obj) (vs : Array Value) (n : Nat) : Prop where
  v : v = .ref a
  out : a ∉ T
  at_ : h.get? a = some ob
  cls : ob.cls = .type c
  data : ob.data = .seq vs n
theorem Is.il {xs : List PV} (i : Is T ρ h (.l xs) v) : ∃ a ob vs n, SeqI T h "list" v a ob vs n ∧ IsL T ρ h xs vs.toList := by cases i with | l a b c d e => exact ⟨_, _, _, _, ⟨rfl, a, b, c, d⟩, e⟩
theorem Is.ir {xs : List PV} (i : Is T ρ h (.r xs) v) : ∃ a ob vs n, SeqI T h "list" v a ob vs n ∧ IsL T ρ h xs vs.toList.reverse := by cases i with | r a b c d e => exact ⟨_, _, _, _, ⟨rfl, a, b, c, d⟩, e⟩
theorem Is.it {xs : List PV} (i : Is T ρ h (.t xs) v) : ∃ a ob vs n, SeqI T h "tuple" v a ob vs n ∧ IsL T ρ h xs vs.toList := by cases i with | t a b c d e => exact ⟨_, _, _, _, ⟨rfl, a, b, c, d⟩, e⟩
theorem SeqI.isList {a : Addr} {ob : Obj} {vs : Array Value} {n : Nat} (x : SeqI T h "list" v a ob vs n) : h.IsList a vs := ⟨ob, x.at_, x.cls, n, x.data⟩
theorem SeqI.isTuple {a : Addr} {ob : Obj} {vs : Array Value} {n : Nat} (x : SeqI T h "tuple" v a ob vs n) : h.IsTuple a vs := ⟨ob, x.at_, x.cls, n, x.data⟩
end
end M1
section D1
open PySem PySem.W PyProof.Rows PySem.Calls
theorem dq_noBool : typeLookup (.type "collections.deque") "__bool__" = pure none := by rw [typeLookup_type, builtinLookup_eq_fast]; kernel_rfl
theorem slot_dq_len : Slot "collections.deque" "__len__" "collections.deque.__len__" :=
  .of (owner := "collections.deque") (n := "__len__") (by rw [typeLookup_type, builtinLookup_eq_fast]; kernel_rfl) (by decide +kernel) (by decide +kernel) (by decide +kernel)
    (by first | exact .inl (by decide +kernel) | exact .inr (by decide +kernel)) (by rw [isSubtype_type]; kernel_rfl)
theorem entry_dq_len : entryFor table "collections.deque.__len__" = some Builtin.«collections.deque.__len__» := entryFor_of_fast (by kernel_rfl)
theorem args_dq_len (a : Value) : argsOk "collections.deque.__len__" ⟨[a], []⟩ := by unfold argsOk; kernel_rfl
noncomputable def dqObj (st : Int) (vs : List Value) : Obj := { cls := .type "collections.deque", data := .fields (#[.none, rawInt st] ++ vs.toArray) }
section
variable {prog : Program} {w : World} {A : Around} {E : Value → Shared → Prop} {s : Shared} {a : Addr} {st : Int} {vs : List Value}
theorem dq_load {Q : Array Value → Shared → Prop} (ho : s.heap.get? a = some (dqObj st vs)) (h : Q (#[.none, rawInt st] ++ vs.toArray) s) : wpAny (model prog w) A (fieldsOf (.ref a)) Q E s := by
  unfold fieldsOf
  exact wpAny_bind (wpAny_loadPart ho (wpAny_pure h))
theorem dq_len {Q : Value → Shared → Prop} (ho : s.heap.get? a = some (dqObj st vs)) (hfit : vs.length < 2 ^ 62) (h : Q (.int vs.length (s.toks + 1)) { s with toks := s.toks + 1 + 1 }) :
    wpAny (model prog w) A (Builtin.«len» ⟨[.ref a], []⟩) (fun fin s' => ∃ r, fin = .done (.ret r) ∧ Q r s') E s := by
  have hT : s.TypeIs (.ref a) "collections.deque" := ⟨_, ho, rfl⟩
  unfold Builtin.«len»
  refine wpAny_bind (m := oneArg "len" _) (wpAny_pure ?_)
  refine wpAny_bind (m := callSpecial? (.ref a) (Str.ofString "__len__")) (wpAny_callSpecial?_slot (name := Str.ofString "__len__") hT slot_dq_len ?_)
  refine wpAny_call (codeAny_call_builtin slot_dq_len.plain entry_dq_len (slot_dq_len.check _ _ _ _ _ _ _ _ hT (args_dq_len _) ?_))
  unfold Builtin.«collections.deque.__len__»
  refine wpAny_bind (wpAny_pure (a := (Value.ref a, [])) (wpAny_bind ?_))
  unfold Builtin.Deque.size
  refine wpAny_bind (dq_load ho (wpAny_pure ?_))
  unfold retInt
  refine wpAny_bind (wpAny_mkInt (wpAny_pure ?_))
  have e : (((#[.none, rawInt st] ++ vs.toArray : Array Value).size - 2 : Nat) : Int) = vs.length := by simp
  show wpAny _ _ _ _ _ { s with toks := s.toks + 1 }
  simp only [e]
  refine wpAny_bind (wpAny_holding (wpAny_pure ?_))
  refine wpAny_bind (wpAny_letGo ?_)
  show wpAny _ _ (if ((vs.length : Nat) : Int) < 0 then _ else _) _ _ _
  rw [if_neg (by omega)]
  show wpAny _ _ (if ((vs.length : Nat) : Int) ≥ 2 ^ 63 then _ else _) _ _ _
  rw [if_neg (by omega)]
  exact wpAny_bind (wpAny_mkInt (wpAny_pure ⟨_, rfl, h⟩))
theorem dq_truthy {Q : Bool → Shared → Prop} (ho : s.heap.get? a = some (dqObj st vs)) (hfit : vs.length < 2 ^ 62) (h : Q (!vs.isEmpty) { s with toks := s.toks + 1 + 1 }) : wpAny (model prog w) A (truthy (.ref a)) Q E s := by
  have hT : s.TypeIs (.ref a) "collections.deque" := ⟨_, ho, rfl⟩
  have hne : ((vs.length : Int) != 0) = !vs.isEmpty := by cases vs with | nil => rfl | cons x r => simp; omega
  have key : wpAny (model prog w) A (runValue (.builtin "len" ⟨[.ref a], []⟩)) (fun r s' => r = .int vs.length (s.toks + 1) ∧ Q (!vs.isEmpty) s') E s := by
    refine wpAny_runValue (codeAny_builtin entry_len ?_)
    rw [Around.under_plainId plain_len _]
    exact wpAny_mono (dq_len (Q := fun r s' => r = .int vs.length (s.toks + 1) ∧ Q (!vs.isEmpty) s') ho hfit ⟨rfl, h⟩) (fun fin s' h' => by obtain ⟨r, rfl, hq⟩ := h'; exact hq) fun _ _ e => e
  unfold truthy
  first
    | refine wpAny_bind (wpAny_callSpecial?_none (name := Str.ofString "__bool__") hT dq_noBool ?_)
    | refine wpAny_bind (wpAny_pure (wpAny_bind (wpAny_callSpecial?_none (name := Str.ofString "__bool__") hT dq_noBool ?_)))
  first
    | refine wpAny_bind (wpAny_specialOf (name := Str.ofString "__len__") hT slot_dq_len.lookup ?_)
    | refine wpAny_bind (wpAny_pure (wpAny_bind (wpAny_specialOf (name := Str.ofString "__len__") hT slot_dq_len.lookup ?_)))
  first
    | exact wpAny_bind (wpAny_mono key (fun r s' h' => by obtain ⟨rfl, hq⟩ := h'; exact wpAny_pure (hne ▸ hq)) fun _ _ e => e)
    | exact wpAny_bind (wpAny_pure (wpAny_bind (wpAny_mono key (fun r s' h' => by obtain ⟨rfl, hq⟩ := h'; exact wpAny_pure (hne ▸ hq)) fun _ _ e => e)))
end
theorem mro_dq : mroOf (.type "collections.deque") = pure [.type "collections.deque", .type "object"] := by rw [mroOf_type]; kernel_rfl
theorem lookup_dq_new : typeLookup (.type "collections.deque") "__new__" = pure (some (.builtin "collections.deque.__new__")) := by rw [typeLookup_type, builtinLookup_eq_fast]; kernel_rfl
theorem sub_dq_self : isSubtype (.type "collections.deque") (.type "collections.deque") = pure true := by rw [isSubtype_type]; kernel_rfl
theorem slot_dq_init : Slot "collections.deque" "__init__" "collections.deque.__init__" :=
  .of (owner := "collections.deque") (n := "__init__") (by rw [typeLookup_type, builtinLookup_eq_fast]; kernel_rfl) (by decide +kernel) (by decide +kernel) (by decide +kernel)
    (by first | exact .inl (by decide +kernel) | exact .inr (by decide +kernel)) (by rw [isSubtype_type]; kernel_rfl)
theorem called_dq : TypeCalled "collections.deque" "collections.deque.__new__" "collections.deque.__init__" :=
  ⟨by decide +kernel, by decide +kernel, ⟨_, _, mro_dq⟩, madeBy_type mro_dq lookup_dq_new (by decide +kernel), by decide +kernel, sub_dq_self, slot_dq_init⟩
theorem typeCall_dq_0 : checkTypeCall "collections.deque" ⟨[], []⟩ = pure () := by kernel_rfl
theorem newCall_dq_0 : checkBuiltinCall "collections.deque.__new__" ⟨[.type "collections.deque"], []⟩ = pure () := by kernel_rfl
theorem entry_dq_new : entryFor table "collections.deque.__new__" = some Builtin.«collections.deque.__new__» := entryFor_of_fast (by kernel_rfl)
theorem entry_dq_init : entryFor table "collections.deque.__init__" = some Builtin.«collections.deque.__init__» := entryFor_of_fast (by kernel_rfl)
theorem plain_dq_new : plainId "collections.deque.__new__" = true := by decide +kernel
theorem args_dq_init (a : Value) : argsOk "collections.deque.__init__" ⟨[a], []⟩ := by unfold argsOk; kernel_rfl
section
variable {prog : Program} {w : World} {A : Around} {E : Value → Shared → Prop} {s : Shared}
theorem isType_dq : isType (.type "collections.deque") = pure true := rfl
theorem noDict_dq : typeHasDict (.type "collections.deque") = false := by kernel_rfl
theorem code_dq_new {Q₁ : Value → Shared → Prop} (h : Q₁ (.ref s.heap.objs.size) { s with heap := s.heap.push (dqObj 0 []) }) :
    codeAny (model prog w) A (.call (.builtin "collections.deque.__new__") ⟨[.type "collections.deque"], []⟩) (wants Q₁ E) s := by
  refine codeAny_of_tree ?_
  show wpAny _ A.in1 (do checkBuiltinCall "collections.deque.__new__" ⟨[.type "collections.deque"], []⟩; again (.builtin "collections.deque.__new__" ⟨[.type "collections.deque"], []⟩)) _ _ s
  refine wpAny_bind (wpAny_of_eq newCall_dq_0 (wpAny_pure ⟨plainId_quiet plain_dq_new _, codeAny_builtin entry_dq_new ?_⟩))
  rw [Around.under_plainId plain_dq_new _]
  unfold Builtin.«collections.deque.__new__» Builtin.Deque.newArgs
  refine wpAny_bind ?_
  dsimp only
  refine wpAny_bind (wpAny_of_eq isType_dq (wpAny_pure ?_))
  refine wpAny_bind ?_
  unfold Builtin.Deque.new
  simp only [noDict_dq]
  refine wpAny_newObj_type (data := .fields (#[.none, rawInt 0] ++ #[])) ?_ (by show (2 : Nat) ≤ _; first | decide | (rw [sizeLine_eq]; decide))
  exact wpAny_pure h
theorem call_deque {Q : Value → Shared → Prop} (h : ∀ h', Heap.SameBut s.heap.objs.size (s.heap.push (dqObj 0 [])) h' → h'.get? s.heap.objs.size = some (dqObj 0 []) → Q (.ref s.heap.objs.size) { s with heap := h' }) :
    wpAny (model prog w) A (call (.type "collections.deque") []) Q E s := by
  refine callType_codes (Q₁ := fun obj s₁ => obj = .ref s.heap.objs.size ∧ s₁ = { s with heap := s.heap.push (dqObj 0 []) }) called_dq typeCall_dq_0 entry_dq_init (code_dq_new ⟨rfl, rfl⟩) fun obj s₁ h₁ => ?_
  obtain ⟨rfl, rfl⟩ := h₁
  have hS : (s.heap.push (dqObj 0 [])).get? s.heap.objs.size = some (dqObj 0 []) := Heap.get?_push_size _ rfl
  refine ⟨⟨_, hS, rfl⟩, args_dq_init _, ?_⟩
  unfold Builtin.«collections.deque.__init__»
  show wpAny _ _ (setField (.ref _) 0 .none >>= fun _ => Builtin.Deque.clear (.ref _) >>= fun _ => ret .none) _ _ _
  refine wpAny_bind (wpAny_setField_rec (vs := #[.none, rawInt 0]) hS (by decide) fun h' e sb => ?_)
  have e : h'.get? s.heap.objs.size = some (dqObj 0 []) := e
  refine wpAny_bind ?_
  unfold Builtin.Deque.clear Builtin.Deque.items
  refine wpAny_bind (wpAny_bind (dq_load e (wpAny_pure ?_)))
  show wpAny _ _ (if (0 : Nat) > 0 then _ else _) _ _ _
  rw [if_neg (by decide)]
  exact wpAny_pure (wpAny_pure ⟨rfl, h h' sb e⟩)
end
end D1
section M2
set_option backward.match.sparseCases false in
noncomputable def put {α : Type} (x : Str) (p : α) : List (Str × α) → List (Str × α)
  | [] => [(x, p)]
  | (y, q) :: r => if x = y then (y, p) :: r else (y, q) :: put x p r
theorem put_c {α : Type} (x z : Str) (p q : α) (r : List (Str × α)) : put x p ((z, q) :: r) = if x = z then (z, p) :: r else (z, q) :: put x p r := rfl
theorem look_c {α : Type} (y z : Str) (q : α) (r : List (Str × α)) : List.lookup y ((z, q) :: r) = if y = z then some q else r.lookup y := by
  rw [List.lookup_cons]
  by_cases g : y = z
  · rw [if_pos g, g, beq_self_eq_true]
  · rw [if_neg g, beq_eq_false_iff_ne.mpr g]
theorem lookup_put {α : Type} (x y : Str) (p : α) (l : List (Str × α)) : (put x p l).lookup y = if y = x then some p else l.lookup y := by
  induction l with
  | nil => exact look_c y x p []
  | cons e r ih =>
    obtain ⟨z, q⟩ := e
    rw [put_c, look_c y z q r]
    by_cases h : x = z
    · subst h
      rw [if_pos rfl, look_c]
      by_cases g : y = x
      · rw [if_pos g, if_pos g]
      · rw [if_neg g, if_neg g, if_neg g]
    · rw [if_neg h, look_c, ih]
      by_cases g : y = z
      · rw [if_pos g, if_neg fun k => h (k.symm.trans g), if_pos g]
      · rw [if_neg g, if_neg g]
inductive PO where
  | inst (C : Addr) (att : List (Str × PV))
  /-- its last item first -/
  | list (xs : List PV)
  | dq (xs : List PV)
  | opaq (ob : Obj)
structure View where
  loc : List (Str × PV)
  objs : List PO
inductive Match (T : List Addr) (ρ : List (Addr × Addr)) (h : Heap) : List (Str × PV) → List DictEntry → Prop
  | nil : Match T ρ h [] []
  | cons {x : Str} {p : PV} {e : DictEntry} {t : Tok} {r : List (Str × PV)} {es : List DictEntry} : e.key = .str x t → Is T ρ h p e.val → Match T ρ h r es → Match T ρ h ((x, p) :: r) (e :: es)
theorem Match.to {T T' : List Addr} {ρ ρ' : List (Addr × Addr)} {h h' : Heap} (t : IsTo T T' ρ ρ' h h') {r : List (Str × PV)} {es : List DictEntry} (m : Match T ρ h r es) : Match T' ρ' h' r es := by
  induction m with
  | nil => exact .nil
  | cons a b _ c => exact .cons a (b.to t) c
theorem Match.keep {N : Nat} {T : List Addr} {ρ : List (Addr × Addr)} {h h' : Heap} (k : Keep N T h h') {r : List (Str × PV)} {es : List DictEntry} (m : Match T ρ h r es) : Match T ρ h' r es := m.to k.to
theorem Match.length {T : List Addr} {ρ : List (Addr × Addr)} {h : Heap} {r : List (Str × PV)} {es : List DictEntry} (m : Match T ρ h r es) : es.length = r.length := by
  induction m with
  | nil => rfl
  | cons a b _ c => exact congrArg (· + 1) c
theorem Match.noRef {T : List Addr} {ρ : List (Addr × Addr)} {h : Heap} {r : List (Str × PV)} {es : List DictEntry} (m : Match T ρ h r es) : es.any (·.refKey) = false := by
  induction m with
  | nil => rfl
  | cons a b _ c => rw [List.any_cons, c, Bool.or_false]; unfold DictEntry.refKey; rw [a]
theorem Match.get {T : List Addr} {ρ : List (Addr × Addr)} {h : Heap} {x : Str} : ∀ {r : List (Str × PV)} {es : List DictEntry}, Match T ρ h r es → (∀ p, r.lookup x = some p → ∃ v, getL x es = some (some v) ∧ Is T ρ h p v) ∧ (r.lookup x = none → getL x es = some none)
  | _, _, .nil => ⟨(fun p e => by simp at e), fun _ => rfl⟩
  | _, _, .cons (x := y) (p := q) (e := e) (r := r) (es := es) a b c => by
    have ih := c.get (x := x)
    have nr := c.noRef
    have er : e.refKey = false := by simp [DictEntry.refKey, a]
    have hk : e.key.isStr x = decide (y = x) := by rw [a]; rfl
    unfold getL at ih ⊢
    rw [List.find?_cons, hk, List.any_cons, er, Bool.false_or, List.lookup_cons]
    by_cases g : y = x
    · subst g
      simp
      exact b
    · have g' : ¬ x = y := fun q => g q.symm
      have : (x == y) = false := by simpa using g'
      simp only [g, decide_false, this]
      exact ih
theorem Match.put {T : List Addr} {ρ : List (Addr × Addr)} {h : Heap} {x : Str} {p : PV} {v : Value} {hs : Int} {t : Tok} (i : Is T ρ h p v) {r : List (Str × PV)} {es : List DictEntry} (m : Match T ρ h r es) : Match T ρ h (Mine.put x p r) (putL x hs (.str x t) v es) := by
  induction m with
  | nil => exact .cons rfl i .nil
  | @cons y q e t' r es a b c ih =>
    have hk : e.key.isStr x = decide (y = x) := by rw [a]; rfl
    rw [put_c]
    show Match T ρ h _ (if e.key.isStr x = true then _ else _)
    rw [hk]
    by_cases g : y = x
    · rw [if_pos g.symm, if_pos (decide_eq_true g)]
      exact .cons a i c
    · rw [if_neg fun q => g q.symm, if_neg fun q => g (of_decide_eq_true q)]
      exact .cons a b ih
set_option backward.match.sparseCases false in
noncomputable def ObjAt (T : List Addr) (ρ : List (Addr × Addr)) (h : Heap) (k : Nat) : PO → Prop
  | .inst C att => ∃ a dx es n, ρ[k]? = some (a, dx) ∧ a ∉ T ∧ h.get? a = some ⟨.ref C, some dx, .plain, #[]⟩ ∧ h.get? dx = some (dictOf es n) ∧ Match T ρ h att es
  | .list xs => ∃ a vs n, ρ[k]? = some (a, a) ∧ h.get? a = some ⟨.type "list", none, .seq vs n, #[]⟩ ∧ IsL T ρ h xs vs.toList.reverse
  | .dq xs => ∃ a st vs, ρ[k]? = some (a, a) ∧ h.get? a = some (dqObj st vs) ∧ IsL T ρ h xs vs
  | .opaq ob => ∃ a, ρ[k]? = some (a, a) ∧ h.get? a = some ob ∧ ob.cls ≠ .type "frame" ∧ ob.cls ≠ .none
noncomputable def muts (L : Addr) (ρ : List (Addr × Addr)) : List Addr := L :: ρ.map (·.2)
structure Fx (N : Nat) (T : List Addr) (ρ : List (Addr × Addr)) (L : Addr) : Prop where
  mem : ∀ b ∈ muts L ρ, b ∈ T
  nodup : (muts L ρ).Nodup
  low : ∀ b ∈ T, N ≤ b
noncomputable def LocOk (T : List Addr) (ρ : List (Addr × Addr)) (h : Heap) (loc : List (Str × PV)) (m : Str → Option Value) : Prop := ∀ x p, loc.lookup x = some p → ∃ v, m x = some v ∧ Is T ρ h p v
structure Rep (T : List Addr) (ρ : List (Addr × Addr)) (L : Addr) (V : View) (h : Heap) : Prop where
  ns : ∃ m, FrameAt h L m ∧ LocOk T ρ h V.loc m
  objs : ∀ k po, V.objs[k]? = some po → ObjAt T ρ h k po
theorem muts_at {L : Addr} {ρ : List (Addr × Addr)} {k : Nat} {a d : Addr} (e : ρ[k]? = some (a, d)) : d ∈ muts L ρ := .tail _ (List.mem_map.mpr ⟨(a, d), List.mem_of_getElem? e, rfl⟩)
theorem ObjAt.to {T T' : List Addr} {ρ ρ' : List (Addr × Addr)} {h h' : Heap} {k : Nat} {po : PO} (t : IsTo T T' ρ ρ' h h') (d : ∀ a d o, ρ[k]? = some (a, d) → h.get? d = some o → o.cls ≠ .type "frame" → o.cls ≠ .none → h'.get? d = some o) (x : ObjAt T ρ h k po) : ObjAt T' ρ' h' k po := by
  cases po with
  | inst C att =>
    obtain ⟨a, dx, es, n, e, na, ea, ed, m⟩ := x
    have q := t.seq a _ na ea (by intro q; cases q) (by intro q; cases q)
    exact ⟨a, dx, es, n, t.obj _ _ _ e, q.1, q.2, d _ _ _ e ed (show Value.type "dict" ≠ Value.type "frame" by decide) (show Value.type "dict" ≠ Value.none by decide), m.to t⟩
  | list xs =>
    obtain ⟨a, vs, n, e, ea, m⟩ := x
    exact ⟨a, vs, n, t.obj _ _ _ e, d _ _ _ e ea (show Value.type "list" ≠ Value.type "frame" by decide) (show Value.type "list" ≠ Value.none by decide), m.to t⟩
  | dq xs =>
    obtain ⟨a, st, vs, e, ea, m⟩ := x
    exact ⟨a, st, vs, t.obj _ _ _ e, d _ _ _ e ea (show Value.type "collections.deque" ≠ Value.type "frame" by decide) (show Value.type "collections.deque" ≠ Value.none by decide), m.to t⟩
  | opaq ob =>
    obtain ⟨a, e, ea, h1, h2⟩ := x
    exact ⟨a, t.obj _ _ _ e, d _ _ _ e ea h1 h2, h1, h2⟩
theorem ObjAt.keep {N : Nat} {T : List Addr} {ρ : List (Addr × Addr)} {h h' : Heap} {k : Nat} {po : PO} {F : List Addr} (x : ObjAt T ρ h k po) (q : Keep N F h h') (f : ∀ a d, ρ[k]? = some (a, d) → d ∉ F) (g : ∀ b ∈ F, b ∈ T) (kT : Keep N T h h') : ObjAt T ρ h' k po := x.to kT.to fun a d o e eo h1 h2 => q.exact (f a d e) eo h1 h2
theorem ObjAt.at_ {T : List Addr} {ρ : List (Addr × Addr)} {h : Heap} {k : Nat} {po : PO} (x : ObjAt T ρ h k po) : ∃ p o, ρ[k]? = some p ∧ h.get? p.2 = some o := by
  cases po with
  | inst C att => obtain ⟨a', dx, es, n, e', na, ea, ed, m⟩ := x; exact ⟨_, _, e', ed⟩
  | list xs => obtain ⟨a', vs, n, e', ea, m⟩ := x; exact ⟨_, _, e', ea⟩
  | dq xs => obtain ⟨a', st, vs, e', ea, m⟩ := x; exact ⟨_, _, e', ea⟩
  | opaq ob => obtain ⟨a', e', ea, h1⟩ := x; exact ⟨_, _, e', ea⟩
theorem ObjAt.live {T : List Addr} {ρ : List (Addr × Addr)} {h : Heap} {k : Nat} {po : PO} {a d : Addr} (x : ObjAt T ρ h k po) (e : ρ[k]? = some (a, d)) : ∃ o, h.get? d = some o := by
  obtain ⟨p, o, e', eo⟩ := x.at_
  rw [e] at e'; cases e'
  exact ⟨o, eo⟩
theorem Rep.keep {N : Nat} {T : List Addr} {ρ : List (Addr × Addr)} {L : Addr} {V : View} {h h' : Heap} (R : Rep T ρ L V h) (q : Keep N [] h h') : Rep T ρ L V h' := by
  obtain ⟨⟨m, hn, hl⟩, ho⟩ := R
  refine ⟨⟨m, q.frame (fun z => nomatch z) hn, fun x p e => ?_⟩, fun k po e => (ho k po e).keep q (fun _ _ _ z => nomatch z) (fun _ z => nomatch z) q.all⟩
  obtain ⟨v, e1, e2⟩ := hl x p e
  exact ⟨v, e1, e2.keep (q.all (T := T))⟩
theorem nodup_ne {L : Addr} {ρ : List (Addr × Addr)} (nd : (muts L ρ).Nodup) {k : Nat} {a d : Addr} (e : ρ[k]? = some (a, d)) : d ≠ L := by
  intro q; subst q
  exact (List.nodup_cons.mp nd).1 (List.mem_map.mpr ⟨(a, d), List.mem_of_getElem? e, rfl⟩)
theorem nodup_ne2 {L : Addr} {ρ : List (Addr × Addr)} (nd : (muts L ρ).Nodup) {k j : Nat} {a d a' d' : Addr} (e : ρ[k]? = some (a, d)) (e' : ρ[j]? = some (a', d')) (ne : k ≠ j) : d ≠ d' := by
  intro q; subst q
  have nd' := (List.nodup_cons.mp nd).2
  have h1 : (ρ.map (·.2))[k]? = some d := by rw [List.getElem?_map, e]; rfl
  have h2 : (ρ.map (·.2))[j]? = some d := by rw [List.getElem?_map, e']; rfl
  obtain ⟨l1, g1⟩ := List.getElem?_eq_some_iff.mp h1
  obtain ⟨l2, g2⟩ := List.getElem?_eq_some_iff.mp h2
  have pw := List.pairwise_iff_getElem.mp nd'
  rcases Nat.lt_or_gt_of_ne ne with l | l
  · exact pw _ _ l1 l2 l (g1.trans g2.symm)
  · exact pw _ _ l2 l1 l (g2.trans g1.symm)
theorem Rep.store {N : Nat} {T : List Addr} {ρ : List (Addr × Addr)} {L : Addr} {V : View} {h h' : Heap} {m : Str → Option Value} {x : Str} {p : PV} {v : Value} (fx : Fx N T ρ L) (R : Rep T ρ L V h) (hl : LocOk T ρ h V.loc m) (i : Is T ρ h p v)
    (hn : FrameAt h' L (fun y => if y = x then some v else m y)) (hs : Heap.SameBut L h h') : Rep T ρ L { V with loc := put x p V.loc } h' := by
  obtain ⟨oL, hoL, _⟩ := hn.cls
  have kL : Keep N [L] h h' := .sameBut hs hoL (.head _)
  have kT : Keep N T h h' := .sameBut hs hoL (fx.mem L (.head _))
  refine ⟨⟨_, hn, fun y q e => ?_⟩, fun k po e => (R.objs k po e).keep kL (fun a d e' z => ?_) (fun b hb => by cases hb with | head => exact fx.mem L (.head _) | tail _ z => cases z) kT⟩
  · rw [lookup_put] at e
    by_cases g : y = x
    · rw [if_pos g] at e; cases e
      exact ⟨v, by rw [if_pos g], i.keep kT⟩
    · rw [if_neg g] at e
      obtain ⟨v', e1, e2⟩ := hl y q e
      exact ⟨v', by rw [if_neg g]; exact e1, e2.keep kT⟩
  · rcases List.mem_singleton.mp z with rfl
    exact nodup_ne fx.nodup e' rfl
theorem Rep.change {N : Nat} {T : List Addr} {ρ : List (Addr × Addr)} {L : Addr} {V : View} {h h' : Heap} {k : Nat} {a d : Addr} {po : PO} (fx : Fx N T ρ L) (R : Rep T ρ L V h) (e : ρ[k]? = some (a, d)) (hs : Heap.SameBut d h h')
    (o : ObjAt T ρ h' k po) : Rep T ρ L { V with objs := V.objs.set k po } h' := by
  obtain ⟨od, hod⟩ := o.live e
  have kd : Keep N [d] h h' := .sameBut hs hod (.head _)
  have dT : d ∈ T := fx.mem d (muts_at e)
  have kT : Keep N T h h' := .sameBut hs hod dT
  obtain ⟨⟨m, hn, hl⟩, ho⟩ := R
  refine ⟨⟨m, kd.frame (fun z => nodup_ne fx.nodup e (List.mem_singleton.mp z).symm) hn, fun y q e' => ?_⟩, fun j pj e' => ?_⟩
  · obtain ⟨v, e1, e2⟩ := hl y q e'
    exact ⟨v, e1, e2.keep kT⟩
  · rw [List.getElem?_set] at e'
    by_cases g : k = j
    · subst g
      rw [if_pos rfl] at e'
      split at e'
      · cases e'; exact o
      · cases e'
    · rw [if_neg g] at e'
      refine (ho j pj e').keep kd (fun a' d' e'' z => nodup_ne2 fx.nodup e e'' g (List.mem_singleton.mp z).symm) (fun b hb => ?_) kT
      rcases List.mem_singleton.mp hb with rfl
      exact dT
set_option backward.match.sparseCases false in
noncomputable def fldsOf : Data → Option (Array Value)
  | .fields vs => some vs
  | _ => none
set_option backward.match.sparseCases false in
noncomputable def refOfV : Value → Option Addr
  | .ref P => some P
  | _ => none
noncomputable def tabOf (o : Obj) : Option Addr := if o.cls == .type "code" then (fldsOf o.data).bind fun vs => (vs[11]?).bind refOfV else none
theorem fldsOf_is {d : Data} {vs : Array Value} (h : fldsOf d = some vs) : d = .fields vs := by
  cases d with
  | fields us => exact congrArg Data.fields (Option.some.inj h)
  | _ => exact no h
theorem refOfV_is {v : Value} {P : Addr} (h : refOfV v = some P) : v = .ref P := by
  cases v with
  | ref Q => exact congrArg Value.ref (Option.some.inj h)
  | _ => exact no h
theorem tabOf_is {o : Obj} {b : Addr} (h : tabOf o = some b) : o.cls = .type "code" ∧ ∃ vs, o.data = .fields vs ∧ vs[11]? = some (.ref b) := by
  obtain ⟨hc, h⟩ := oi h
  obtain ⟨vs, hd, h⟩ := ob h
  obtain ⟨v, hv, h⟩ := ob h
  exact ⟨eq_of_beq hc, vs, fldsOf_is hd, by rw [hv, refOfV_is h]⟩
structure Base (K : Frag) (N : Nat) (h : Heap) : Prop where
  k : K.In h
  b : ∃ mb, h.Ns builtinsNs mb ∧ ∀ x : Str, x ≠ "__name__" → mb x = bootBuiltins x
  lim : h.NoLimit
  tab : ∀ a o P, K.lookup a = some o → tabOf o = some P → ∃ ps, h.get? P = some (X.tableObj ps) ∧ TriplesOk ps.toList
set_option backward.match.sparseCases false in
noncomputable def lowP (N : Nat) (p : Addr × Obj) : Bool := decide (p.1 < N) && ((match p.2.cls with
  | .none => (match p.2.data with
    | .fields _ => false
    | _ => true)
  | _ => true) && (match tabOf p.2 with
  | some P => decide (P < N) && decide (P < topN)
  | none => true))
noncomputable def lowK (K : Frag) (N : Nat) : Bool := K.all (lowP N)
theorem mem_lookup {α β : Type} [BEq α] [LawfulBEq α] {l : List (α × β)} {a : α} {b : β} (e : l.lookup a = some b) : (a, b) ∈ l := by
  induction l with
  | nil => cases e
  | cons p r ih =>
    obtain ⟨x, y⟩ := p
    rw [List.lookup_cons] at e
    split at e
    · rename_i g; cases e; rw [beq_iff_eq.mp g]; exact .head _
    · exact .tail _ (ih e)
theorem lowK_at {K : Frag} {N : Nat} {a : Addr} {o : Obj} (lk : lowK K N = true) (e : K.lookup a = some o) : a < N ∧ (∀ vs, o ≠ X.tableObj vs) ∧ ∀ P, tabOf o = some P → P < N ∧ P < topN := by
  have z := List.all_eq_true.mp lk (a, o) (mem_lookup e)
  unfold lowP at z
  obtain ⟨z1, z2⟩ := Bool.and_eq_true_iff.mp z
  obtain ⟨z2, z3⟩ := Bool.and_eq_true_iff.mp z2
  refine ⟨of_decide_eq_true z1, fun vs q => ?_, fun P q => ?_⟩
  · dsimp only at z2; rw [q] at z2; cases z2
  · dsimp only at z3; rw [q] at z3; exact ⟨of_decide_eq_true (Bool.and_eq_true_iff.mp z3).1, of_decide_eq_true (Bool.and_eq_true_iff.mp z3).2⟩
theorem Base.keep {K : Frag} {N : Nat} {T : List Addr} {h h' : Heap} (B : Base K N h) (lk : lowK K N = true) (hT : ∀ b ∈ T, N ≤ b) (lo : builtinsNs < N ∧ cStatics < N) (k : Keep N T h h') : Base K N h' := by
  have out : ∀ {a : Addr}, a < N → a ∉ T := fun l q => Nat.not_le.mpr l (hT _ q)
  refine ⟨fun a o e => ?_, ?_, ?_, fun a o P e t => ?_⟩
  · obtain ⟨z1, z2, _⟩ := lowK_at lk e
    exact k.low (out z1) (B.k a o e) z1 z2
  · obtain ⟨mb, h1, h2⟩ := B.b
    exact ⟨mb, k.ns (out lo.1) h1, h2⟩
  · obtain ⟨mc, h1, h2⟩ := B.lim
    exact ⟨mc, k.ns (out lo.2) h1, h2⟩
  · obtain ⟨_, _, z3⟩ := lowK_at lk e
    obtain ⟨ps, h1, h2⟩ := B.tab a o P e t
    have q := k.off P _ (out (z3 P t).1) h1
    generalize h'.get? P = r at q
    cases q with
    | same => exact ⟨ps, rfl, h2⟩
    | slots sl _ hc => cases hc
    | tab vs more lt nl q tr =>
      have : ps = vs := by
        have := congrArg Obj.data q
        injection this
      subst this
      exact ⟨_, rfl, tr h2⟩
structure Gn (a b : Array GenState) : Prop where
  size : a.size ≤ b.size
  old : ∀ k, k < a.size → b[k]? = a[k]?
  bare : AllBare a → AllBare b
theorem Gn.refl (a : Array GenState) : Gn a a := ⟨Nat.le_refl _, fun _ _ => rfl, id⟩
theorem Gn.trans {a b c : Array GenState} (x : Gn a b) (y : Gn b c) : Gn a c := ⟨Nat.le_trans x.size y.size, fun k h => (y.old k (Nat.lt_of_lt_of_le h x.size)).trans (x.old k h), fun h => y.bare (x.bare h)⟩
theorem Gn.of_eq {a b : Array GenState} (h : b = a) : Gn a b := h ▸ .refl a
structure St (N : Nat) (F : List Addr) (s s' : Shared) : Prop where
  keep : Keep N F s.heap s'.heap
  gens : Gn s.gens s'.gens
  os : s'.os = s.os
theorem St.refl {N : Nat} {F : List Addr} (s : Shared) : St N F s s := ⟨.refl _, .refl _, rfl⟩
theorem St.trans {N : Nat} {F : List Addr} {s s' s'' : Shared} (x : St N F s s') (y : St N F s' s'') : St N F s s'' := ⟨x.keep.trans y.keep, x.gens.trans y.gens, y.os.trans x.os⟩
theorem St.sub {N : Nat} {F F' : List Addr} {s s' : Shared} (x : St N F s s') (h : ∀ b ∈ F, b ∈ F') : St N F' s s' := ⟨x.keep.sub h, x.gens, x.os⟩
theorem St.all {N : Nat} {F : List Addr} {s s' : Shared} (x : St N [] s s') : St N F s s' := x.sub fun _ h => nomatch h
end M2
section M3
structure Wd where
  prog : Program
  w : World
  K : Frag
  N : Nat
structure Fc extends Wd where
  A : Around
  env : Env
  T : List Addr
  ρ : List (Addr × Addr)
  L : Addr
structure Fc.Ok (c : Fc) : Prop where
  fx : Fx c.N c.T c.ρ c.L
  kind : c.env.scope.kind = .function
  loc : c.env.locals = c.L
  glb : c.env.globals = mainGlobals
  blt : c.env.builtins = builtinsNs
  lowK : lowK c.K c.N = true
  lo : builtinsNs < c.N ∧ cStatics < c.N
noncomputable abbrev Fc.M (c : Fc) : Model := model c.prog c.w
noncomputable abbrev Fc.muts (c : Fc) : List Addr := Mine.muts c.L c.ρ
noncomputable def Frs (N : Nat) (A : Around) (h : Heap) : Prop := ∃ fs, A.frames = some fs ∧ ∀ env ∈ fs, env.scope.kind ≠ .module ∧ ∃ L m, env.frame = some L ∧ N ≤ L ∧ FrameAt h L m
theorem Frs.keep {N : Nat} {A : Around} {h h' : Heap} (x : Frs N A h) (k : Keep N [] h h') : Frs N A h' := by
  obtain ⟨fs, e, hf⟩ := x
  refine ⟨fs, e, fun env he => ?_⟩
  obtain ⟨h1, L, m, h2, h3, h4⟩ := hf env he
  exact ⟨h1, L, m, h2, h3, k.frame (fun z => nomatch z) h4⟩
theorem Frs.one {N : Nat} {A : Around} {h h' : Heap} {d : Addr} (x : Frs N A h) (k : Keep N [d] h h') (hd : (∃ o, h.get? d = some o ∧ o.cls ≠ .type "frame") ∨ ∃ m, FrameAt h' d m) : Frs N A h' := by
  obtain ⟨fs, e, hf⟩ := x
  refine ⟨fs, e, fun env he => ?_⟩
  obtain ⟨h1, L, m, h2, h3, h4⟩ := hf env he
  by_cases g : L = d
  · subst g
    rcases hd with ⟨o, ho, hc⟩ | ⟨m', q⟩
    · obtain ⟨o', ho', hc'⟩ := h4.cls
      rw [ho] at ho'; cases ho'; exact absurd hc' hc
    · exact ⟨h1, L, m', h2, h3, q⟩
  · exact ⟨h1, L, m, h2, h3, k.frame (fun z => g (List.mem_singleton.mp z)) h4⟩
structure Inv (c : Fc) (V : View) (s : Shared) : Prop where
  rep : Rep c.T c.ρ c.L V s.heap
  base : Base c.K c.N s.heap
  live : ∀ b ∈ c.T, ∃ o, s.heap.get? b = some o
  frs : Frs c.N c.A s.heap
theorem Inv.toks {c : Fc} {V : View} {s : Shared} (I : Inv c V s) (t : Nat) : Inv c V { s with toks := t } := ⟨I.rep, I.base, I.live, I.frs⟩
theorem St.toks {N : Nat} {F : List Addr} {s : Shared} (t : Nat) : St N F s { s with toks := t } := ⟨.refl _, .refl _, rfl⟩
theorem Inv.keep {c : Fc} {V : View} {s s' : Shared} (ok : c.Ok) (I : Inv c V s) (k : Keep c.N [] s.heap s'.heap) : Inv c V s' := ⟨I.rep.keep k, I.base.keep (T := []) ok.lowK (fun _ h => nomatch h) ok.lo k, fun b hb => let ⟨o, e⟩ := I.live b hb; k.there b o e, I.frs.keep k⟩
theorem Fc.Ok.mutsT {c : Fc} (ok : c.Ok) : ∀ b ∈ c.muts, b ∈ c.T := ok.fx.mem
theorem Is.st {c : Fc} (ok : c.Ok) {s s' : Shared} {p : PV} {v : Value} (i : Is c.T c.ρ s.heap p v) (x : St c.N c.muts s s') : Is c.T c.ρ s'.heap p v := i.keep (x.keep.sub ok.mutsT)
theorem IsL.st {c : Fc} (ok : c.Ok) {s s' : Shared} {p : List PV} {v : List Value} (i : IsL c.T c.ρ s.heap p v) (x : St c.N c.muts s s') : IsL c.T c.ρ s'.heap p v := i.keep (x.keep.sub ok.mutsT)
noncomputable def EvOk (c : Fc) (e : Expr) (V : View) (p : PV) (V' : View) : Prop :=
  ∀ (s : Shared) (Q E : Value → Shared → Prop), Inv c V s → (∀ s' v, Inv c V' s' → St c.N c.muts s s' → Is c.T c.ρ s'.heap p v → Q v s') → wpAny c.M c.A (eval e c.env) Q E s
noncomputable def TvOk (c : Fc) (e : Expr) (V : View) (b : Bool) (V' : View) : Prop :=
  ∀ (s : Shared) (Q : Bool → Shared → Prop) (E : Value → Shared → Prop), Inv c V s → (∀ s', Inv c V' s' → St c.N c.muts s s' → Q b s') → wpAny c.M c.A (isTrue e c.env (eval e c.env)) Q E s
inductive PF where
  | next
  | brk
  | cont
  | ret (p : PV)
set_option backward.match.sparseCases false in
noncomputable def FlIs (c : Fc) (h : Heap) : PF → Flow → Prop
  | .next, f => f = .next
  | .brk, f => f = .brk
  | .cont, f => f = .cont
  | .ret p, f => ∃ v, f = .ret v ∧ Is c.T c.ρ h p v
noncomputable def SxOk (c : Fc) (st : Stmt) (V : View) (f : PF) (V' : View) : Prop :=
  ∀ (s : Shared) (Q : Flow → Shared → Prop) (E : Value → Shared → Prop), Inv c V s → (∀ s' fl, Inv c V' s' → St c.N c.muts s s' → FlIs c s'.heap f fl → Q fl s') → wpAny c.M c.A (exec st c.env) Q E s
noncomputable def ExOk (c : Fc) (b : List Stmt) (V : View) (f : PF) (V' : View) : Prop :=
  ∀ (s : Shared) (Q : Flow → Shared → Prop) (E : Value → Shared → Prop), Inv c V s → (∀ s' fl, Inv c V' s' → St c.N c.muts s s' → FlIs c s'.heap f fl → Q fl s') → wpAny c.M c.A (execs b c.env) Q E s
section
variable {c : Fc} {V V' V'' : View} {p q : PV}
theorem ev_local {x : Str} {pos : Pos} (ok : c.Ok) (hk : c.env.kindOf x = some .local) (hd : (x == ("__debug__" : Str)) = false) (hp : V.loc.lookup x = some p) : EvOk c (.Name x pos) V p V := by
  intro s Q E I h
  obtain ⟨m, hn, hl⟩ := I.rep.ns
  obtain ⟨v, e, i⟩ := hl x p hp
  exact wpAny_Name (wpAny_loadName_local ok.kind hk (by rw [ok.loc]; exact hn.ns) e (h s v I (.refl s) i)) hd
noncomputable def globIs (K : Frag) (x : Str) (v : Value) : Bool := nsIn K mainGlobals x == some (some v) || (nsIn K mainGlobals x == some none && bootBuiltins x == some v && x != ("__name__" : Str))
theorem nsMain {K : Frag} {h : Heap} (X : K.In h) {x : Str} {r : Option Value} (e : nsIn K mainGlobals x = some r) : ∀ {Q : Value → Shared → Prop} {E : Value → Shared → Prop} {M : Model} {A : Around} {s : Shared} {k : Option Value → Sem Value}, s.heap = h → wpAny M A (k r) Q E s → wpAny M A (nsGet mainGlobals x >>= k) Q E s := by
  intro Q E M A s k hs hq
  exact wpAny_bind ((looks_nsIn X e) A _ E s (by rw [hs]; exact fun _ _ e => e) hq)
theorem ev_glob {x : Str} {pos : Pos} {v : Value} (ok : c.Ok) (hk : c.env.kindOf x = some .globalImplicit) (hd : (x == ("__debug__" : Str)) = false) (hg : globIs c.K x v = true) : EvOk c (.Name x pos) V (.v v) V := by
  intro s Q E I h
  refine Calls.Name_function_global ok.kind hk ?_ hd
  unfold loadGlobal
  rw [ok.glb]
  rcases Bool.or_eq_true_iff.mp hg with e | e
  · have e := beq_iff_eq.mp e
    exact nsMain I.base.k e rfl (wpAny_pure (h s v I (.refl s) (.v v)))
  · obtain ⟨e, e3⟩ := Bool.and_eq_true_iff.mp e
    obtain ⟨e1, e2⟩ := Bool.and_eq_true_iff.mp e
    refine nsMain I.base.k (beq_iff_eq.mp e1) rfl ?_
    obtain ⟨mb, hb, hx⟩ := I.base.b
    refine wpAny_bind (wpAny_nsGet (by rw [ok.blt]; exact hb) ?_)
    rw [hx x (by simpa using e3), beq_iff_eq.mp e2]
    exact wpAny_pure (h s v I (.refl s) (.v v))
theorem ev_str {x : Str} {k : Nat} {pos : Pos} : EvOk c (.Constant (.str x) k pos) V (.s x) V := fun s Q E I h => wpAny_Constant_str (h _ _ (I.toks _) (.toks _) (.s x _))
theorem ev_int {x : Int} {k : Nat} {pos : Pos} : EvOk c (.Constant (.int x) k pos) V (.i x) V := fun s Q E I h => wpAny_Constant_int (h _ _ (I.toks _) (.toks _) (.i x _))
theorem ev_bool {x : Bool} {k : Nat} {pos : Pos} : EvOk c (.Constant (.bool x) k pos) V (.v (.bool x)) V := fun s Q E I h => wpAny_Constant_bool (h _ _ I (.refl s) (.v _))
theorem ev_none {k : Nat} {pos : Pos} : EvOk c (.Constant .none k pos) V (.v .none) V := fun s Q E I h => wpAny_Constant_none (h _ _ I (.refl s) (.v _))
set_option backward.match.sparseCases false in
noncomputable def handedP : PV → Bool
  | .v x => handedIn x
  | _ => true
theorem handed_is {T : List Addr} {ρ : List (Addr × Addr)} {h : Heap} {v : Value} (i : Is T ρ h p v) (e : handedP p = true) : handedIn v = true := by
  cases i <;> first | exact e | rfl
set_option backward.match.sparseCases false in
noncomputable def attrOk (K : Frag) (C : Addr) (n : Str) : Bool := plainGet K C n && hasDictIn K C && (match findIn K (.ref C) n with | some a => noGet K a | none => false)
theorem ev_attr {y n : Str} {py pos : Pos} {k : Nat} {C : Addr} {att : List (Str × PV)} (ok : c.Ok) (hy : EvOk c (.Name y py) V (.o k) V) (ho : V.objs[k]? = some (.inst C att)) (ha : attrOk c.K C n = true) (hp : att.lookup n = some p) (hh : handedP p = true) :
    EvOk c (.Attribute (.Name y py) n pos) V p V := by
  intro s Q E I h
  refine Attribute_Name_ (hy s _ E I fun s' v I' st i => ?_)
  obtain ⟨a, dx, es, n', e1, na, ea, ed, m⟩ := I'.rep.objs k _ ho
  cases i with
  | o e =>
    rw [e1] at e; cases e
    obtain ⟨u, g1, g2⟩ := m.get.1 p hp
    obtain ⟨h12, h3⟩ := Bool.and_eq_true_iff.mp ha
    obtain ⟨h1, h2⟩ := Bool.and_eq_true_iff.mp h12
    have IA : InstAt s'.heap a ⟨.ref C, some dx, .plain, #[]⟩ C (some (dictOf es n')) := ⟨ea, rfl, rfl, ed⟩
    generalize hf : findIn c.K (.ref C) n = r at h3
    cases r with
    | none => cases h3
    | some r =>
      exact get_value I'.base.k IA (plainGet_of h1).1 (findObj_own h2 hf h3 g1) (handed_is g2 hh) (h _ _ (I'.toks _) (st.trans (.toks _)) g2)
theorem set_at {a dx C : Addr} {es : List DictEntry} {n' : Nat} {n : Str} {v : Value} {s : Shared} {Q : Unit → Shared → Prop} {E : Value → Shared → Prop} {K : Frag} {prog : Program} {w : World} {A : Around} (X : K.In s.heap) (ea : s.heap.get? a = some ⟨.ref C, some dx, .plain, #[]⟩) (ed : s.heap.get? dx = some (dictOf es n'))
    (hs : findIn K (.ref C) "__setattr__" = some (some (.builtin "object.__setattr__"))) (hp : plainOver K C = true) (ht : takerIn K C n = some none) (hh : hasDictIn K C = true) (hl : (getL n es).isSome = true) (hz : (putL n (PyData.keyHash w.params n) (.str n (s.toks + 1)) v es).length ≤ 1000)
    (h : ∀ h', Heap.SameBut dx s.heap h' → h'.get? dx = some (dictOf (putL n (PyData.keyHash w.params n) (.str n (s.toks + 1)) v es) (putN n es n')) → Q () { s with heap := h', toks := s.toks + 2 }) : wpAny (model prog w) A (setAttr (.ref a) n v) Q E s := by
  have IA : InstAt s.heap a ⟨.ref C, some dx, .plain, #[]⟩ C (some (dictOf es n')) := ⟨ea, rfl, rfl, ed⟩
  refine set_plain X IA hs ?_
  refine osa_open (s := { s with toks := s.toks + 1 }) X IA hp ht fun b => ?_
  obtain ⟨cd, hc, hd'⟩ := any_some hh
  refine wpAny_bind (wpAny_pure (wpAny_bind (wpAny_bind (wpAny_loadPart ea (wpAny_bind ((looks_clsIn X hc) _ _ _ _ (fun _ _ e => e) ?_))))))
  rw [hd']
  refine wpAny_pure (a := some dx) (wpAny_bind (wpAny_pure (wpAny_bind ?_)))
  unfold nsSet
  refine wpAny_bind (wpAny_bind (wpAny_askSetting (wpAny_pure (wpAny_bind (wpAny_mkText (wpAny_bind (wpAny_loadPart ed ?_)))))))
  have cc : (!es.toArray.any (·.key.isStr n) && es.toArray.any (·.refKey)) = false := by
    unfold getL at hl
    rw [← Array.any_toList, ← Array.any_toList]
    split at hl
    · rename_i en he
      rw [List.any_eq_true.mpr ⟨en, List.mem_of_find?_eq_some he, List.find?_some he⟩]; rfl
    · split at hl
      · cases hl
      · rename_i z; rw [Bool.not_eq_true] at z; rw [z, Bool.and_false]
  show wpAny _ _ (match (dictOf es n').data with | _ => _) _ _ _
  dsimp only
  rw [aRefKeyMayBeTheName_at, cc]
  have sb : Heap.SameBut dx s.heap (s.heap.update dx (Obj.putName n (PyData.keyHash w.params n) (.str n (s.toks + 1)) v)) := Heap.SameBut.update ..
  have D' : (s.heap.update dx (Obj.putName n (PyData.keyHash w.params n) (.str n (s.toks + 1)) v)).get? dx = some (dictOf (putL n (PyData.keyHash w.params n) (.str n (s.toks + 1)) v es) (putN n es n')) := by
    have := Heap.get?_update_self (Obj.putName n (PyData.keyHash w.params n) (.str n (s.toks + 1)) v) ed (by rw [putName_dict]; rfl)
    rw [this, putName_dict]
  refine wpAny_updatePart ed ?_
  refine wpAny_bind (wpAny_lookBehind D' (by exact pastItsLine_dict (by rw [List.size_toArray, sizeLine_eq]; omega)) ?_)
  exact wpAny_pure (h _ sb D')
end
end M3
section M4
set_option backward.match.sparseCases false in
noncomputable def strV : PV → Option Str
  | .s x => some x
  | _ => none
set_option backward.match.sparseCases false in
noncomputable def strsOf : List PV → Option (List Str)
  | [] => some []
  | p :: r => (strV p).bind fun x => (strsOf r).map (x :: ·)
theorem strsOf_is {T : List Addr} {ρ : List (Addr × Addr)} {h : Heap} {ps : List PV} {vs : List Value} {ys : List Str} (e : strsOf ps = some ys) (i : IsL T ρ h ps vs) : StrsAre vs ys :=
  IsL.ind (M := fun ps vs => ∀ ys, strsOf ps = some ys → StrsAre vs ys) (fun ys e => by cases e; exact .nil) (fun {p v ps vs} a _ b ys e => by
    obtain ⟨x, e1, e⟩ := ob e
    obtain ⟨zs, e2, e⟩ := map_some e
    subst e
    cases p with
    | s x => cases e1; cases a; exact .cons _ _ (b _ e2)
    | _ => exact no e1) i ys e
set_option backward.match.sparseCases false in
noncomputable def AllP : List Prop → Prop
  | [] => True
  | p :: r => p ∧ AllP r
theorem AllP.append {a b : List Prop} : AllP (a ++ b) ↔ AllP a ∧ AllP b := by
  induction a with
  | nil => simp [AllP]
  | cons p r ih => simp [AllP, ih, and_assoc]
set_option backward.match.sparseCases false in
noncomputable def isNoneV : Value → Bool
  | .none => true
  | _ => false
theorem isNoneV_is {v : Value} (h : isNoneV v = true) : v = .none := by cases v <;> first | rfl | exact nof h
noncomputable abbrev BP := Option (Bool × List Prop)
set_option backward.match.sparseCases false in
noncomputable def eqS (x : Str) : PV → BP
  | .s y => some (x.cps.toList == y.cps.toList, [])
  | .v u => if isNoneV u then some (false, []) else none
  | _ => none
set_option backward.match.sparseCases false in
noncomputable def eqI (x : Int) : PV → BP
  | .i y => some (x == y, [])
  | _ => none
set_option backward.match.sparseCases false in
noncomputable def eqN : PV → BP
  | .s _ => some (false, [])
  | .v u => if isNoneV u then some (true, []) else none
  | _ => none
set_option backward.match.sparseCases false in
noncomputable def eqP (p q : PV) : BP := match p with
  | .s x => eqS x q
  | .i x => eqI x q
  | .v v => if isNoneV v then eqN q else none
  | _ => none
section
variable {prog : Program} {w : World} {A : Around} {T : List Addr} {ρ : List (Addr × Addr)} {s : Shared} {p q : PV} {b : Bool} {P : List Prop} {v u : Value}
noncomputable def EqNe (prog : Program) (w : World) (A : Around) (s : Shared) (v u : Value) (b : Bool) : Prop :=
  (∀ Q E : Value → Shared → Prop, Q (.bool b) s → wpAny (model prog w) A (compareOp .Eq v u) Q E s) ∧ (∀ Q E : Value → Shared → Prop, Q (.bool (!b)) s → wpAny (model prog w) A (compareOp .NotEq v u) Q E s)
theorem eqS_sound {x : Str} (e : eqS x q = some (b, P)) (i : Is T ρ s.heap (.s x) v) (j : Is T ρ s.heap q u) : EqNe prog w A s v u b := by
  obtain ⟨_, rfl⟩ := i.is
  cases q with
  | s y => cases e; obtain ⟨_, rfl⟩ := j.is; exact ⟨fun Q E h => P.eq_str h, fun Q E h => P.ne_str h⟩
  | v u => obtain ⟨h, e⟩ := oi e; cases e; rw [j.iv, isNoneV_is h]; exact ⟨fun Q E h => EqNone.eq_str_none h, fun Q E h => EqNone.ne_str_none h⟩
  | _ => exact no e
theorem eqN_sound (e : eqN q = some (b, P)) (j : Is T ρ s.heap q u) : EqNe prog w A s .none u b := by
  cases q with
  | s y => cases e; obtain ⟨_, rfl⟩ := j.is; exact ⟨fun Q E h => EqNone.eq_none_str h, fun Q E h => EqNone.ne_none_str h⟩
  | v u => obtain ⟨h, e⟩ := oi e; cases e; rw [j.iv, isNoneV_is h]; exact ⟨fun Q E h => EqNone.eq_none_none h, fun Q E h => EqNone.ne_none_none h⟩
  | _ => exact no e
theorem eqne_sound (e : eqP p q = some (b, P)) (hP : AllP P) (i : Is T ρ s.heap p v) (j : Is T ρ s.heap q u) (hu : A.units + 64 < cLine) : EqNe prog w A s v u b := by
  cases p with
  | s x => exact eqS_sound e i j
  | i x =>
    obtain ⟨_, rfl⟩ := i.ii
    cases q with
    | i y => cases e; obtain ⟨_, rfl⟩ := j.ii; exact ⟨fun Q E h => P.eq_int h, fun Q E h => P.ne_int h⟩
    | _ => exact no e
  | v x => obtain ⟨h, e⟩ := oi e; rw [i.iv, isNoneV_is h]; exact eqN_sound e j
  | _ => exact no e
set_option backward.match.sparseCases false in
noncomputable def isPN : PV → Option Bool
  | .v x => if plainIs x .none then some (x == .none) else none
  | _ => some false
set_option backward.match.sparseCases false in
noncomputable def refV : Value → Option Addr
  | .ref a => some a
  | _ => none
theorem refV_is {v : Value} {a : Addr} (h : refV v = some a) : v = .ref a := by
  cases v with
  | ref => cases h; rfl
  | _ => exact no h
noncomputable def isRR (nt : List Addr) (a b : Addr) : Option Bool := if a == b then some true else if nt.contains a && nt.contains b then some false else none
set_option backward.match.sparseCases false in
noncomputable def isPR (nt : List Addr) (b : Addr) : PV → Option Bool
  | .v v => (refV v).bind fun a => isRR nt a b
  | .s _ => some false
  | _ => none
set_option backward.match.sparseCases false in
noncomputable def isB : Value → Bool
  | .bool _ => true
  | _ => false
set_option backward.match.sparseCases false in
noncomputable def isPO (u : Value) : PV → Option Bool
  | .v x => if plainIs x u then some (x == u) else none
  | .s _ => if isB u then some false else none
  | _ => none
set_option backward.match.sparseCases false in
noncomputable def isPV (nt : List Addr) (p : PV) : Value → Option Bool
  | .none => isPN p
  | .ref b => isPR nt b p
  | u => isPO u p
set_option backward.match.sparseCases false in
noncomputable def isP (nt : List Addr) (p q : PV) : Option Bool := match q with
  | .v u => isPV nt p u
  | _ => none
noncomputable def NtOk (K : Frag) (nt : List Addr) : Prop := ∀ a, nt.contains a = true → ∃ o, K.lookup a = some o ∧ o.cls ≠ .type "tuple" ∧ o.cls ≠ .type "list"
noncomputable def Sm (prog : Program) (w : World) (A : Around) (s : Shared) (v u : Value) (b : Bool) : Prop := ∀ (R : Bool → Shared → Prop) (E : Value → Shared → Prop), R b s → wpAny (model prog w) A (isSame v u) R E s
theorem sm_plain (hp : plainIs v u = true) : Sm prog w A s v u (v == u) := fun R E r => wpAny_isSame_plain hp r
theorem same_none (hn : ∀ x, p = .v x → False) (i : Is T ρ s.heap p v) : Sm prog w A s v .none false := by
  cases i with
  | v => exact (hn _ rfl).elim
  | _ => exact sm_plain rfl
section
variable {K : Frag} {nt : List Addr} {a a' : Addr}
theorem sm_two (N : NtOk K nt) (X : K.In s.heap) (ne : (a == a') = false) (h : (nt.contains a && nt.contains a') = true) : Sm prog w A s (.ref a) (.ref a') false := fun R E r => by
  obtain ⟨h1, h2⟩ := Bool.and_eq_true_iff.mp h
  obtain ⟨oa, ea, _, _⟩ := N a h1
  obtain ⟨ob, eb, c1, _⟩ := N a' h2
  exact PySem.SeqAt.wpAny_isSame_ref_other' (by simpa using ne) (X _ _ ea) (X _ _ eb) c1 r
theorem sm_oth {x : Value} (e : isPO x p = some b) (i : Is T ρ s.heap p v) : Sm prog w A s v x b := by
  cases p with
  | v y => obtain ⟨h, e⟩ := oi e; cases e; cases i.iv; exact sm_plain h
  | s y =>
    obtain ⟨h, e⟩ := oi e
    cases e
    obtain ⟨_, rfl⟩ := i.is
    cases x with
    | bool _ => exact sm_plain rfl
    | _ => exact nof h
  | _ => exact no e
theorem sm_none (e : isPN p = some b) (i : Is T ρ s.heap p v) : Sm prog w A s v .none b := by
  cases p with
  | v y => obtain ⟨h, e⟩ := oi e; cases e; cases i.iv; exact sm_plain h
  | _ => cases e; exact same_none (fun _ q => by cases q) i
theorem sm_rr (N : NtOk K nt) (X : K.In s.heap) (e : isRR nt a a' = some b) : Sm prog w A s (.ref a) (.ref a') b := by
  unfold isRR at e
  by_cases h : (a == a') = true
  · rw [if_pos h] at e; cases e
    intro R E r
    show wpAny _ A (if _ then pure true else _) R E s
    rw [if_pos h]; exact wpAny_pure r
  · rw [if_neg h] at e
    obtain ⟨h2, e⟩ := oi e
    cases e; exact sm_two N X (Bool.eq_false_iff.mpr h) h2
theorem sm_ref (N : NtOk K nt) (X : K.In s.heap) (e : isPR nt a' p = some b) (i : Is T ρ s.heap p v) : Sm prog w A s v (.ref a') b := by
  cases p with
  | v y =>
    obtain ⟨a, ea, e⟩ := ob e
    have := i.iv
    rw [refV_is ea] at this
    subst this
    exact sm_rr N X e
  | s x => cases e; obtain ⟨_, rfl⟩ := i.is; exact fun R E r => wpAny_pure r
  | _ => exact no e
end
theorem isP_sound {K : Frag} {nt : List Addr} (N : NtOk K nt) (X : K.In s.heap) (e : isP nt p q = some b) (i : Is T ρ s.heap p v) (j : Is T ρ s.heap q u) : Sm prog w A s v u b := by
  cases q with
  | v x =>
    rw [j.iv]
    cases x with
    | none => exact sm_none e i
    | ref a' => exact sm_ref N X e i
    | _ => exact sm_oth e i
  | _ => exact no e
set_option backward.match.sparseCases false in
noncomputable def oneN : List Nat → Option Nat
  | [] => none
  | c :: r => if r.isEmpty then some c else none
theorem oneN_is {l : List Nat} {c : Nat} (h : oneN l = some c) : l = [c] := by
  cases l with
  | nil => exact no h
  | cons a r => obtain ⟨h1, h⟩ := oi h; cases h; rw [List.isEmpty_iff.mp h1]
set_option backward.match.sparseCases false in
noncomputable def inS (y : Str) : PV → Option Bool
  | .s x => (oneN y.cps.toList).map fun c => decide (c ∈ x.cps.toList)
  | .t ps => (strsOf ps).map fun ys => ys.any (· == y)
  | _ => none
set_option backward.match.sparseCases false in
noncomputable def inP (p q : PV) : Option Bool := match p with
  | .s y => inS y q
  | _ => none
theorem str_one {y : Str} {c : Nat} (e : y.cps.toList = [c]) : y = ⟨#[c]⟩ := by
  obtain ⟨⟨l⟩⟩ := y
  simp at e; subst e; rfl
noncomputable def InNot (prog : Program) (w : World) (A : Around) (s : Shared) (v u : Value) (b : Bool) : Prop :=
  (∀ Q E : Value → Shared → Prop, Q (.bool b) s → wpAny (model prog w) A (compareOp .In v u) Q E s) ∧ (∀ Q E : Value → Shared → Prop, Q (.bool (!b)) s → wpAny (model prog w) A (compareOp .NotIn v u) Q E s)
theorem inP_sound (e : inP p q = some b) (i : Is T ρ s.heap p v) (j : Is T ρ s.heap q u) : InNot prog w A s v u b := by
  cases p with
  | s y =>
    obtain ⟨_, rfl⟩ := i.is
    cases q with
    | s x =>
      obtain ⟨c, hc, e⟩ := map_some e
      subst e
      obtain ⟨_, rfl⟩ := j.is
      refine ⟨fun Q E h => P.in_str ?_, fun Q E h => P.notIn_str ?_⟩ <;> (rw [str_one (oneN_is hc), StrLaws.found_one]; exact h)
    | t ps =>
      obtain ⟨ys, e1, e2⟩ := map_some e
      subst e2
      obtain ⟨_, _, _, _, z, hl⟩ := j.it
      cases z.v
      exact ⟨fun Q E h => in_tuple_strs z.isTuple (strsOf_is e1 hl) h, fun Q E h => notin_tuple_strs z.isTuple (strsOf_is e1 hl) h⟩
    | _ => exact no e
  | _ => exact no e
set_option backward.match.sparseCases false in
noncomputable def ordI (x y : Int) : CmpOp → Option Bool
  | .Lt => some (decide (x < y))
  | .LtE => some (decide (x ≤ y))
  | .Gt => some (decide (x > y))
  | .GtE => some (decide (x ≥ y))
  | _ => none
set_option backward.match.sparseCases false in
noncomputable def intP : PV → Option Int
  | .i x => some x
  | _ => none
theorem intP_is {p : PV} {x : Int} (h : intP p = some x) : p = .i x := by
  cases p with
  | i => cases h; rfl
  | _ => exact no h
noncomputable def ordP (op : CmpOp) (p q : PV) : Option Bool := two (intP p) (intP q) fun x y => ordI x y op
theorem ordP_sound {op : CmpOp} (e : ordP op p q = some b) (i : Is T ρ s.heap p v) (j : Is T ρ s.heap q u) {Q E : Value → Shared → Prop} (h : Q (.bool b) s) : wpAny (model prog w) A (compareOp op v u) Q E s := by
  obtain ⟨x, y, e1, e2, e⟩ := two_is e
  rw [intP_is e1] at i
  rw [intP_is e2] at j
  obtain ⟨_, rfl⟩ := i.ii; obtain ⟨_, rfl⟩ := j.ii
  cases op with
  | Lt => cases e; exact P.lt_int h
  | LtE => cases e; exact P.le_int h
  | Gt => cases e; exact P.gt_int h
  | GtE => cases e; exact P.ge_int h
  | _ => exact no e
set_option backward.match.sparseCases false in
noncomputable def cmpG (nt : List Addr) (op : CmpOp) (p q : PV) : BP := match op with
  | .Eq => eqP p q
  | .NotEq => (eqP p q).map fun z => (!z.1, z.2)
  | .Is => (isP nt p q).map fun z => (z, [])
  | .IsNot => (isP nt p q).map fun z => (!z, [])
  | .In => (inP p q).map fun z => (z, [])
  | .NotIn => (inP p q).map fun z => (!z, [])
  | op => (ordP op p q).map fun z => (z, [])
theorem cmpG_sound {K : Frag} {nt : List Addr} {op : CmpOp} {Q E : Value → Shared → Prop} (N : NtOk K nt) (X : K.In s.heap) (e : cmpG nt op p q = some (b, P)) (hP : AllP P) (hu : A.units + 64 < cLine) (i : Is T ρ s.heap p v) (j : Is T ρ s.heap q u)
    (hq : Q (.bool b) s) : wpAny (model prog w) A (compareOp op v u) Q E s := by
  cases op with
  | Eq => exact (eqne_sound e hP i j hu).1 _ _ hq
  | NotEq =>
    obtain ⟨z, e1, e2⟩ := Option.map_eq_some_iff.mp e
    cases e2
    exact (eqne_sound e1 hP i j hu).2 _ _ hq
  | Is =>
    obtain ⟨z, e1, e2⟩ := Option.map_eq_some_iff.mp e
    cases e2
    exact wpAny_bind (isP_sound N X e1 i j _ _ (wpAny_pure hq))
  | IsNot =>
    obtain ⟨z, e1, e2⟩ := Option.map_eq_some_iff.mp e
    cases e2
    exact wpAny_bind (isP_sound N X e1 i j _ _ (wpAny_pure hq))
  | In =>
    obtain ⟨z, e1, e2⟩ := Option.map_eq_some_iff.mp e
    cases e2
    exact (inP_sound e1 i j).1 _ _ hq
  | NotIn =>
    obtain ⟨z, e1, e2⟩ := Option.map_eq_some_iff.mp e
    cases e2
    exact (inP_sound e1 i j).2 _ _ hq
  | _ =>
    obtain ⟨z, e1, e2⟩ := Option.map_eq_some_iff.mp e
    cases e2
    exact ordP_sound e1 i j hq
end
set_option backward.match.sparseCases false in
noncomputable def truthP (p : PV) : BP := match p with
  | .s x => some (!x.cps.toList.isEmpty, [x.length ≤ sizeLine])
  | .i x => some (x != 0, [])
  | .v v => (match v with
    | .none => some (false, [])
    | .bool b => some (b, [])
    | _ => none)
  | _ => none
theorem truth_sound {prog : Program} {w : World} {A : Around} {T : List Addr} {ρ : List (Addr × Addr)} {h : Heap} {p : PV} {b : Bool} {P : List Prop} {v : Value} {s : Shared} {Q : Bool → Shared → Prop} {E : Value → Shared → Prop} (e : truthP p = some (b, P)) (hP : AllP P) (i : Is T ρ h p v)
    (hq : ∀ tk, Q b { s with toks := tk }) : wpAny (model prog w) A (truthy v) Q E s := by
  unfold truthP at e
  split at e
  · rename_i x
    cases e; obtain ⟨_, rfl⟩ := i.is
    have hP := hP.1
    refine P.truthy_str (by rw [sizeLine_eq] at hP; omega) ?_
    have : ((x.length : Int) != 0) = !x.cps.toList.isEmpty := by
      obtain ⟨⟨l⟩⟩ := x
      cases l with
      | nil => rfl
      | cons a r => simp [Str.length]; omega
    rw [this]; exact hq _
  · cases e; obtain ⟨_, rfl⟩ := i.ii; exact P.truthy_int (hq s.toks)
  · cases i.iv
    split at e
    · cases e; exact truthy_none (hq s.toks)
    · cases e; exact wpAny_truthy_bool (hq s.toks)
    · cases e
  · cases e
theorem str_nil {x y : Str} (h : (x.length == 0) = true) : x ++ y = y := by
  obtain ⟨⟨l⟩⟩ := x; obtain ⟨⟨r⟩⟩ := y
  have : l = [] := by
    have := beq_iff_eq.mp h
    exact List.length_eq_zero_iff.mp this
  subst this
  show (⟨#[] ++ ⟨r⟩⟩ : Str) = _
  simp
theorem nil_str {x y : Str} (h : (y.length == 0) = true) : x ++ y = x := by
  obtain ⟨⟨l⟩⟩ := x; obtain ⟨⟨r⟩⟩ := y
  have : r = [] := by
    have := beq_iff_eq.mp h
    exact List.length_eq_zero_iff.mp this
  subst this
  show (⟨⟨l⟩ ++ #[]⟩ : Str) = _
  simp
theorem made_add {x y : Str} {t u : Tok} {s : Shared} {Q : Value → Shared → Prop} (hz : (x ++ y).length ≤ sizeLine) (hq : ∀ t' tk, Q (.str (x ++ y) t') { s with toks := tk }) :
    (if x.length == 0 then Made.val (.str y u) else if y.length == 0 then Made.val (.str x t) else Made.str (x ++ y)).post Q s := by
  split
  · rename_i g; have := hq u s.toks; rw [str_nil g] at this; exact this
  · split
    · rename_i g; have := hq t s.toks; rw [nil_str g] at this; exact this
    · exact ⟨hz, hq _ _⟩
noncomputable abbrev VP := Option (PV × List Prop)
set_option backward.match.sparseCases false in
noncomputable def addP (p q : PV) : VP := match p with
  | .i x => (match q with
    | .i y => some (.i (x + y), [])
    | _ => none)
  | .s x => (match q with
    | .s y => some (.s (x ++ y), [(x ++ y).length ≤ sizeLine])
    | _ => none)
  | _ => none
noncomputable def Ln (xs : List PV) : Prop := xs.length ≤ 1000000
theorem Ln.sz {T : List Addr} {ρ : List (Addr × Addr)} {h : Heap} {xs : List PV} {vs : List Value} (l : Ln xs) (i : IsL T ρ h xs vs) : vs.length ≤ 1000000 := i.length ▸ l
set_option backward.match.sparseCases false in
noncomputable def addL (p q : PV) : VP := match q with
  | .l ys => (match p with
    | .l xs => some (.l (xs ++ ys), [Ln xs, Ln ys])
    | .r xs => some (.r (ys.reverse ++ xs), [Ln xs, Ln ys])
    | _ => none)
  | _ => none
set_option backward.match.sparseCases false in
noncomputable def binP (op : Operator) (p q : PV) : VP := match op with
  | .Add => (match addP p q with
    | some z => some z
    | none => addL p q)
  | _ => (match p with
    | .i x => (match q with
      | .i y => (match op with
        | .Sub => some (.i (x - y), [])
        | .Mult => some (.i (x * y), [IntMulOk x y])
        | .Mod => some (.i (x.fmod y), [y ≠ 0])
        | .FloorDiv => some (.i (x.fdiv y), [y ≠ 0, y.natAbs < 1073741824])
        | _ => none)
      | _ => none)
    | _ => none)
section
variable {prog : Program} {w : World} {A : Around} {N : Nat} {T : List Addr} {ρ : List (Addr × Addr)} {s : Shared} {p q r : PV} {P : List Prop} {v u : Value} {Q E : Value → Shared → Prop}
theorem add_sound {h : Heap} (e : addP p q = some (r, P)) (hP : AllP P) (i : Is T ρ h p v) (j : Is T ρ h q u)
    (hq : ∀ tk x, Is T ρ h r x → Q x { s with toks := tk }) : wpAny (model prog w) A (binaryOp .Add v u) Q E s := by
  unfold addP at e
  split at e
  · split at e
    · cases e; obtain ⟨_, rfl⟩ := i.ii; obtain ⟨_, rfl⟩ := j.ii; exact P.add_int (hq _ _ (.i _ _))
    · cases e
  · split at e
    · cases e; obtain ⟨_, rfl⟩ := i.is; obtain ⟨_, rfl⟩ := j.is; exact P.add_str (made_add hP.1 fun _ _ => hq _ _ (.s _ _))
    · cases e
  · cases e
theorem iadd_sound {h : Heap} (e : addP p q = some (r, P)) (hP : AllP P) (i : Is T ρ h p v) (j : Is T ρ h q u)
    (hq : ∀ tk x, Is T ρ h r x → Q x { s with toks := tk }) : wpAny (model prog w) A (inplaceOp .Add v u) Q E s := by
  unfold addP at e
  split at e
  · split at e
    · cases e; obtain ⟨_, rfl⟩ := i.ii; obtain ⟨_, rfl⟩ := j.ii; exact P.iadd_int (hq _ _ (.i _ _))
    · cases e
  · split at e
    · cases e; obtain ⟨_, rfl⟩ := i.is; obtain ⟨_, rfl⟩ := j.is; exact P.iadd_str (made_add hP.1 fun _ _ => hq _ _ (.s _ _))
    · cases e
  · cases e
theorem fresh_none (h : Heap) : h.get? h.objs.size = none := by
  cases q : h.get? h.objs.size with
  | none => rfl
  | some o => exact absurd (Heap.lt_size q) (Nat.lt_irrefl _)
theorem fresh_out {h : Heap} (live : ∀ b ∈ T, ∃ o, h.get? b = some o) : h.objs.size ∉ T := fun hb => by
  obtain ⟨o, e⟩ := live _ hb
  rw [fresh_none] at e; cases e
theorem St.push {F : List Addr} (o : Obj) : St N F s { s with heap := s.heap.push o } := ⟨.push _ _, .refl _, rfl⟩
theorem is_new {h : Heap} {xs : List PV} {vs : List Value} {n : Nat} (live : ∀ b ∈ T, ∃ o, h.get? b = some o) (i : IsL T ρ h xs vs) : Is T ρ (h.push { cls := .type "list", data := .seq vs.toArray n }) (.l xs) (.ref h.objs.size) :=
  .l (fresh_out live) (Heap.get?_push_size _ rfl) rfl rfl (by simpa using i.keep (.push (N := 0) _ _))
theorem is_newr {h : Heap} {xs : List PV} {vs : List Value} {n : Nat} (live : ∀ b ∈ T, ∃ o, h.get? b = some o) (i : IsL T ρ h xs vs.reverse) : Is T ρ (h.push { cls := .type "list", data := .seq vs.toArray n }) (.r xs) (.ref h.objs.size) :=
  .r (fresh_out live) (Heap.get?_push_size _ rfl) rfl rfl (by simpa using i.keep (.push (N := 0) _ _))
theorem addl_raw {l b : Addr} {o o2 : Obj} {vs us : Array Value} {n n2 : Nat} (ho : s.heap.get? l = some o) (hc : o.cls = .type "list") (hd : o.data = .seq vs n) (ho2 : s.heap.get? b = some o2) (hc2 : o2.cls = .type "list") (hd2 : o2.data = .seq us n2) (hz : vs.size + us.size ≤ sizeLine)
    (h : Q (.ref s.heap.objs.size) { s with heap := s.heap.push { cls := .type "list", data := .seq (vs.toList ++ us.toList).toArray } }) : wpAny (model prog w) A (binaryOp .Add (.ref l) (.ref b)) Q E s := by
  obtain ⟨cls, dd, data, sl⟩ := o
  obtain ⟨cls2, dd2, data2, sl2⟩ := o2
  simp only at hc hd hc2 hd2
  subst hc hd hc2 hd2
  have e : vs ++ us = (vs.toList ++ us.toList).toArray := by simp
  refine concat_meets ⟨_, ho, rfl⟩ ⟨_, ho2, rfl⟩ noFill_list_add seq_list_add PySem.F.slot_list_add PySem.F.entry_list_add (PySem.F.args_list_add_2 _ _) (list_addW l b vs us n n2 dd dd2 sl sl2 hz) ⟨ho, ho2, ?_⟩
  rw [e]
  exact h
theorem addl_sound (live : ∀ b ∈ T, ∃ o, s.heap.get? b = some o) (e : addL p q = some (r, P)) (hP : AllP P) (i : Is T ρ s.heap p v) (j : Is T ρ s.heap q u)
    (hq : ∀ s' x, St N [] s s' → Is T ρ s'.heap r x → Q x s') : wpAny (model prog w) A (binaryOp .Add v u) Q E s := by
  unfold addL at e
  split at e
  · split at e
    · cases e
      obtain ⟨_, _, _, _, y, ra⟩ := i.il
      obtain ⟨_, _, _, _, z, rb⟩ := j.il
      cases y.v; cases z.v
      have z1 := hP.1.sz ra
      have z2 := hP.2.1.sz rb
      refine addl_raw y.at_ y.cls y.data z.at_ z.cls z.data (by simp at z1 z2; rw [sizeLine_eq]; omega) (hq _ _ (.push _) (is_new live (ra.append rb)))
    · cases e
      obtain ⟨_, _, _, _, y, ra⟩ := i.ir
      obtain ⟨_, _, _, _, z, rb⟩ := j.il
      cases y.v; cases z.v
      have z1 := hP.1.sz ra
      have z2 := hP.2.1.sz rb
      refine addl_raw y.at_ y.cls y.data z.at_ z.cls z.data (by simp at z1 z2; rw [sizeLine_eq]; omega) (hq _ _ (.push _) (is_newr live ?_))
      rw [List.reverse_append]
      exact rb.reverse.append ra
    · cases e
  · cases e
theorem bin_sound {op : Operator} (live : ∀ b ∈ T, ∃ o, s.heap.get? b = some o) (e : binP op p q = some (r, P)) (hP : AllP P) (i : Is T ρ s.heap p v) (j : Is T ρ s.heap q u)
    (hq : ∀ s' x, St N [] s s' → Is T ρ s'.heap r x → Q x s') : wpAny (model prog w) A (binaryOp op v u) Q E s := by
  unfold binP at e
  split at e
  · split at e
    · rename_i h; cases e
      exact add_sound h hP i j fun tk x ix => hq _ _ (.toks tk) ix
    · exact addl_sound live e hP i j hq
  · split at e
    · split at e
      · obtain ⟨_, rfl⟩ := i.ii; obtain ⟨_, rfl⟩ := j.ii
        split at e
        · cases e; exact P.sub_int (hq _ _ (.toks _) (.i _ _))
        · cases e; exact P.mul_int (hq _ _ (.toks _) (.i _ _)) hP.1
        · cases e; exact mod_int' hP.1 (hq _ _ (.toks _) (.i _ _))
        · cases e; exact floordiv_int hP.1 (hq _ _ (.toks _) (.i _ _)) (.inl (PyProof.noPylong_small hP.2.1))
        · cases e
      · cases e
    · cases e
end
set_option backward.match.sparseCases false in
noncomputable def notComp : Expr → Bool
  | .ListComp .. => false
  | .SetComp .. => false
  | .DictComp .. => false
  | _ => true
theorem swaps_no {e : Expr} {t : Option Expr} {l : Nat} {env : Env} (h : notComp e = true) : swapsWith e t l env = pure false := by
  cases e <;> first | rfl | exact nof h
section
variable {c : Fc} {V V1 V2 V' V'' : View} {p q r : PV} {P : List Prop} {b : Bool}
theorem ev_cmp {l : Expr} {op : CmpOp} {r : Expr} {pos : Pos} (ok : c.Ok) (hu : c.A.units + 64 < cLine) (hl : EvOk c l V p V1) (hr : EvOk c r V1 q V2) {nt : List Addr} (N : NtOk c.K nt) (e : cmpG nt op p q = some (b, P)) (hP : AllP P) (hm : behindInMarks op r = false) : EvOk c (.Compare l [op] [r] pos) V (.v (.bool b)) V2 := by
  intro s Q E I h
  refine wpAny_Compare1 (hl s _ E I fun s1 v I1 t1 i1 => hr s1 _ E I1 fun s2 u I2 t2 i2 => ?_) hm
  exact cmpG_sound N I2.base.k e hP hu (i1.st ok t2) i2 (h s2 _ I2 (t1.trans t2) (.v _))
theorem tv_cmp {l : Expr} {op : CmpOp} {r : Expr} {pos : Pos} (ok : c.Ok) (hu : c.A.units + 64 < cLine) (hl : EvOk c l V p V1) (hr : EvOk c r V1 q V2) {nt : List Addr} (N : NtOk c.K nt) (e : cmpG nt op p q = some (b, P)) (hP : AllP P) (hm : behindInMarks op r = false) : TvOk c (.Compare l [op] [r] pos) V b V2 := by
  intro s Q E I h
  refine wpAny_isTrue_Compare1 (hl s _ E I fun s1 v I1 t1 i1 => hr s1 _ E I1 fun s2 u I2 t2 i2 => ?_) hm
  exact cmpG_sound N I2.base.k e hP hu (i1.st ok t2) i2 (wpAny_truthy_bool (h s2 I2 (t1.trans t2)))
theorem tv_plain {e : Expr} (he : ∀ env whole, isTrue e env whole = (do let v ← whole; standAt e.pos; holding [v] (truthy v))) (hv : EvOk c e V p V1) (ht : truthP p = some (b, P)) (hP : AllP P) : TvOk c e V b V1 := by
  intro s Q E I h
  refine wpAny_isTrue_value (hv s _ E I fun s1 v I1 t1 i1 => ?_) (he _ _)
  exact truth_sound ht hP i1 fun tk => h _ (I1.toks tk) (t1.trans (.toks tk))
set_option backward.match.sparseCases false in
noncomputable def objTruth : PO → Option (Bool × List Prop)
  | .dq xs => some (!xs.isEmpty, [xs.length < 2 ^ 62])
  | _ => none
theorem empty_is {T : List Addr} {ρ : List (Addr × Addr)} {h : Heap} {xs : List PV} {vs : List Value} (m : IsL T ρ h xs vs) : xs.isEmpty = vs.isEmpty := by cases m <;> rfl
theorem tv_obj {e : Expr} {k : Nat} {po : PO} (he : ∀ env whole, isTrue e env whole = (do let v ← whole; standAt e.pos; holding [v] (truthy v))) (hv : EvOk c e V (.o k) V1) (ho : V1.objs[k]? = some po) (ht : objTruth po = some (b, P)) (hP : AllP P) : TvOk c e V b V1 := by
  cases po with
  | dq xs =>
    cases ht
    intro s Q E I h
    refine wpAny_isTrue_value (hv s _ E I fun s1 v I1 t1 i1 => ?_) (he _ _)
    obtain ⟨a, st, vs, e, ea, m⟩ := I1.rep.objs k _ ho
    obtain ⟨a', m', rfl, e1⟩ := i1.io
    rw [e1] at e; cases e
    have hl := hP.1
    rw [m.length] at hl
    rw [empty_is m] at h
    exact dq_truthy ea hl (h _ (I1.toks _) (t1.trans (.toks _)))
  | _ => exact no ht
theorem tv_not {e : Expr} {pos : Pos} (hv : TvOk c e V b V1) : TvOk c (.UnaryOp .Not e pos) V (!b) V1 := by
  intro s Q E I h
  exact wpAny_isTrue_Not (hv s _ E I fun s1 I1 t1 => h s1 I1 t1)
noncomputable def AllOk (c : Fc) (op : BoolOp) (es : List Expr) (V : View) (b : Bool) (V' : View) : Prop :=
  ∀ (s : Shared) (Q : Bool → Shared → Prop) (E : Value → Shared → Prop), Inv c V s → (∀ s', Inv c V' s' → St c.N c.muts s s' → Q b s') → wpAny c.M c.A (allTrue op es c.env) Q E s
theorem all_and_nil : AllOk c .And [] V true V := fun s Q E I h => wpAny_allTrue_And_nil (h s I (.refl s))
theorem all_or_nil : AllOk c .Or [] V false V := fun s Q E I h => wpAny_allTrue_Or_nil (h s I (.refl s))
theorem all_and {e : Expr} {es : List Expr} {b' : Bool} (he : TvOk c e V b V) (hr : b = true → AllOk c .And es V b' V) : AllOk c .And (e :: es) V (b && b') V := by
  intro s Q E I h
  refine wpAny_allTrue_And_cons (he s _ E I fun s1 I1 t1 => ?_)
  cases b with
  | true => exact hr rfl s1 Q E I1 fun s2 I2 t2 => h s2 I2 (t1.trans t2)
  | false => exact h s1 I1 t1
theorem all_or {e : Expr} {es : List Expr} {b' : Bool} (he : TvOk c e V b V) (hr : b = false → AllOk c .Or es V b' V) : AllOk c .Or (e :: es) V (b || b') V := by
  intro s Q E I h
  refine wpAny_allTrue_Or_cons (he s _ E I fun s1 I1 t1 => ?_)
  cases b with
  | true => exact h s1 I1 t1
  | false => exact hr rfl s1 Q E I1 fun s2 I2 t2 => h s2 I2 (t1.trans t2)
theorem tv_boolop {op : BoolOp} {es : List Expr} {pos : Pos} (h : AllOk c op es V b V') : TvOk c (.BoolOp op es pos) V b V' := fun s Q E I k => wpAny_isTrue_BoolOp (h s Q E I k)
theorem ev_bin {l r : Expr} {op : Operator} {pos : Pos} {x : PV} (ok : c.Ok) (hl : EvOk c l V p V1) (hr : EvOk c r V1 q V2) (e : binP op p q = some (x, P)) (hP : AllP P) : EvOk c (.BinOp l op r pos) V x V2 := by
  intro s Q E I h
  refine wpAny_BinOp (hl s _ E I fun s1 v I1 t1 i1 => hr s1 _ E I1 fun s2 u I2 t2 i2 => ?_)
  exact bin_sound (N := c.N) I2.live e hP (i1.st ok t2) i2 fun s3 y t3 iy => h _ _ (I2.keep ok t3.keep) ((t1.trans t2).trans t3.all) iy
theorem store_name {x : Str} {v : Value} {s : Shared} {Q : Unit → Shared → Prop} {E : Value → Shared → Prop} (ok : c.Ok) (hk : c.env.kindOf x = some .local) (I : Inv c V s) (i : Is c.T c.ρ s.heap p v)
    (h : ∀ s', Inv c { V with loc := put x p V.loc } s' → St c.N c.muts s s' → Q () s') : wpAny c.M c.A (storeName c.env x v) Q E s := by
  obtain ⟨m, hn, hl⟩ := I.rep.ns
  rw [storeName_local hk (by rw [ok.kind]; rfl), ok.loc]
  refine nsSet_frame hn fun h' hn' hs => ?_
  obtain ⟨oL, hoL, _⟩ := hn'.cls
  have kL : Keep c.N [c.L] s.heap h' := .sameBut hs hoL (.head _)
  refine h _ ⟨I.rep.store ok.fx hl i hn' hs, I.base.keep (T := [c.L]) ok.lowK (fun b hb => ?_) ok.lo kL, fun b hb => let ⟨o, e⟩ := I.live b hb; kL.there b o e, I.frs.one kL (.inr ⟨_, hn'⟩)⟩ ⟨kL.sub fun b hb => ?_, .refl _, rfl⟩
  · rcases List.mem_singleton.mp hb with rfl; exact ok.fx.low _ (ok.fx.mem _ (.head _))
  · rcases List.mem_singleton.mp hb with rfl; exact .head _
theorem sx_assign {x : Str} {e : Expr} {pos' pos : Pos} (ok : c.Ok) (hk : c.env.kindOf x = some .local) (he : EvOk c e V p V1) (hc : notComp e = true) : SxOk c (.Assign [.Name x pos'] e pos) V .next { V1 with loc := put x p V1.loc } := by
  intro s Q E I h
  refine wpAny_Assign_Name (he s _ E I fun s1 v I1 t1 i1 => store_name ok hk I1 i1 fun s2 I2 t2 => h s2 _ I2 (t1.trans t2) rfl) (swaps_no hc)
theorem sx_aug {x : Str} {e : Expr} {pos' pos : Pos} {r : PV} (ok : c.Ok) (hk : c.env.kindOf x = some .local) (hx : V.loc.lookup x = some p) (he : EvOk c e V q V1) (ha : addP p q = some (r, P)) (hP : AllP P) : SxOk c (.AugAssign (.Name x pos') .Add e pos) V .next { V1 with loc := put x r V1.loc } := by
  intro s Q E I h
  obtain ⟨m, hn, hl⟩ := I.rep.ns
  obtain ⟨v, e0, i⟩ := hl x p hx
  refine wpAny_AugAssign_Name (wpAny_loadName_local ok.kind hk (by rw [ok.loc]; exact hn.ns) e0 (he s _ E I fun s1 u I1 t1 i1 => iadd_sound ha hP (i.st ok t1) i1 fun tk y iy => ?_))
  exact store_name ok hk (I1.toks tk) iy fun s2 I2 t2 => h s2 _ I2 ((t1.trans (.toks tk)).trans t2) rfl
noncomputable def setOk (K : Frag) (C : Addr) (n : Str) : Bool := findIn K (.ref C) "__setattr__" == some (some (.builtin "object.__setattr__")) && plainOver K C && takerIn K C n == some none && hasDictIn K C
theorem putL_len (es : List DictEntry) (x : Str) (hs : Int) (ky vv : Value) : (putL x hs ky vv es).length ≤ es.length + 1 := by
  induction es with
  | nil => exact Nat.le_refl _
  | cons e r ih =>
    show (if e.key.isStr x = true then ⟨e.hash, e.key, vv⟩ :: r else e :: putL x hs ky vv r).length ≤ _
    by_cases g : e.key.isStr x = true
    · rw [if_pos g]; exact Nat.le_succ _
    · rw [if_neg g]; exact Nat.succ_le_succ ih
theorem set_attr {n : Str} {v : Value} {k : Nat} {C : Addr} {att : List (Str × PV)} {a d : Addr} {s : Shared} {Q : Unit → Shared → Prop} {E : Value → Shared → Prop} (ok : c.Ok) (I : Inv c V s) (hr : c.ρ[k]? = some (a, d)) (ho : V.objs[k]? = some (.inst C att)) (hs : setOk c.K C n = true) (hz : att.length ≤ 900)
    (i : Is c.T c.ρ s.heap p v) (h : ∀ s', Inv c { V with objs := V.objs.set k (.inst C (put n p att)) } s' → St c.N c.muts s s' → Q () s') : wpAny c.M c.A (setAttr (.ref a) n v) Q E s := by
  obtain ⟨a', dx, es, n', e1, na, ea, ed, m⟩ := I.rep.objs k _ ho
  rw [hr] at e1; cases e1
  obtain ⟨h123, h4⟩ := Bool.and_eq_true_iff.mp hs
  obtain ⟨h12, h3⟩ := Bool.and_eq_true_iff.mp h123
  obtain ⟨h1, h2⟩ := Bool.and_eq_true_iff.mp h12
  have hl : (getL n es).isSome = true := by
    have g := m.get (x := n)
    cases hq : att.lookup n with
    | none => rw [g.2 hq]; rfl
    | some p => obtain ⟨v, e, _⟩ := g.1 p hq; rw [e]; rfl
  have dT : d ∈ c.T := ok.fx.mem d (muts_at hr)
  refine set_at I.base.k ea ed (beq_iff_eq.mp h1) h2 (beq_iff_eq.mp h3) h4 hl ?_ fun h' sb ed' => ?_
  · have := putL_len es n (PyData.keyHash c.w.params n) (.str n (s.toks + 1)) v
    have := m.length
    omega
  · have kT : Keep c.N c.T s.heap h' := .sameBut sb ed' dT
    have kd : Keep c.N [d] s.heap h' := .sameBut sb ed' (.head _)
    have nad : a ≠ d := fun q => na (q ▸ dT)
    refine h _ ⟨I.rep.change ok.fx hr sb ⟨a, d, _, _, hr, na, (sb.2 a nad).trans ea, ed', (m.put i).keep kT⟩, I.base.keep (T := [d]) ok.lowK (fun b hb => ?_) ok.lo kd, fun b hb => let ⟨o, e⟩ := I.live b hb; kd.there b o e, I.frs.one kd (.inl ⟨_, ed, show Value.type "dict" ≠ Value.type "frame" by decide⟩)⟩ ⟨kd.sub fun b hb => ?_, .refl _, rfl⟩
    · rcases List.mem_singleton.mp hb with rfl; exact ok.fx.low _ dT
    · rcases List.mem_singleton.mp hb with rfl; exact muts_at hr
theorem sx_setattr {y n : Str} {e : Expr} {py pos' pos : Pos} {k : Nat} {C : Addr} {att : List (Str × PV)} (ok : c.Ok) (he : EvOk c e V p V1) (hy : EvOk c (.Name y py) V1 (.o k) V1) (ho : V1.objs[k]? = some (.inst C att)) (hs : setOk c.K C n = true) (hz : att.length ≤ 900) (hc : notComp e = true) :
    SxOk c (.Assign [.Attribute (.Name y py) n pos'] e pos) V .next { V1 with objs := V1.objs.set k (.inst C (put n p att)) } := by
  intro s Q E I h
  refine plainObj_wpAny_Assign_Attribute (he s _ E I fun s1 v I1 t1 i1 => hy s1 _ E I1 fun s2 u I2 t2 i2 => ?_) (swaps_no hc)
  cases i2 with
  | o e => exact set_attr ok I2 e ho hs hz (i1.st ok t2) fun s3 I3 t3 => h s3 _ I3 ((t1.trans t2).trans t3) rfl
theorem get_attr {n : Str} {k : Nat} {C : Addr} {att : List (Str × PV)} {a d : Addr} {s : Shared} {Q E : Value → Shared → Prop} {ex : Bool} (ok : c.Ok) (I : Inv c V s) (hr : c.ρ[k]? = some (a, d)) (ho : V.objs[k]? = some (.inst C att)) (ha : attrOk c.K C n = true) (hp : att.lookup n = some p) (hh : handedP p = true)
    (h : ∀ v tk, Is c.T c.ρ s.heap p v → Q v { s with toks := tk }) : wpAny c.M c.A (getAttr (.ref a) n ex) Q E s := by
  obtain ⟨a', dx, es, n', e1, na, ea, ed, m⟩ := I.rep.objs k _ ho
  rw [hr] at e1; cases e1
  obtain ⟨u, g1, g2⟩ := m.get.1 p hp
  obtain ⟨h12, h3⟩ := Bool.and_eq_true_iff.mp ha
  obtain ⟨h1, h2⟩ := Bool.and_eq_true_iff.mp h12
  have IA : InstAt s.heap a ⟨.ref C, some d, .plain, #[]⟩ C (some (dictOf es n')) := ⟨ea, rfl, rfl, ed⟩
  generalize hf : findIn c.K (.ref C) n = r at h3
  cases r with
  | none => cases h3
  | some r => exact get_value I.base.k IA (plainGet_of h1).1 (findObj_own h2 hf h3 g1) (handed_is g2 hh) (h _ _ g2)
theorem sx_augattr {y n : Str} {e : Expr} {py pos' pos : Pos} {k : Nat} {C : Addr} {att : List (Str × PV)} {r : PV} (ok : c.Ok) (hy : EvOk c (.Name y py) V (.o k) V) (ho : V.objs[k]? = some (.inst C att)) (ha : attrOk c.K C n = true) (hp : att.lookup n = some p) (hh : handedP p = true) (he : EvOk c e V q V)
    (hadd : addP p q = some (r, P)) (hP : AllP P) (hs : setOk c.K C n = true) (hz : att.length ≤ 900) : SxOk c (.AugAssign (.Attribute (.Name y py) n pos') .Add e pos) V .next { V with objs := V.objs.set k (.inst C (put n r att)) } := by
  intro s Q E I h
  refine wpAny_AugAssign_AttributeAny (hy s _ E I fun s1 u I1 t1 i1 => ?_)
  cases i1 with
  | o e1 =>
    refine get_attr ok I1 e1 ho ha hp hh fun v tk iv => ?_
    refine he _ _ E (I1.toks tk) fun s2 u2 I2 t2 i2 => ?_
    refine iadd_sound hadd hP (Is.st (s := { s1 with toks := tk }) ok iv t2) i2 fun tk2 x ix => ?_
    exact set_attr ok (I2.toks tk2) e1 ho hs hz ix fun s3 I3 t3 => h s3 _ I3 ((((t1.trans (.toks tk)).trans t2).trans (.toks tk2)).trans t3) rfl
theorem sx_if {t : Expr} {bd el : List Stmt} {pos : Pos} {f : PF} (ht : TvOk c t V b V1) (h : ExOk c (if b then bd else el) V1 f V2) : SxOk c (.If t bd el pos) V f V2 := by
  intro s Q E I k
  refine wpAny_If (ht s _ E I fun s1 I1 t1 => ?_)
  cases b <;> exact h s1 Q E I1 fun s2 fl I2 t2 hf => k s2 fl I2 (t1.trans t2) hf
theorem sx_return {e : Expr} {pos : Pos} (he : EvOk c e V p V1) : SxOk c (.Return (some e) pos) V (.ret p) V1 := fun s Q E I k => wpAny_Return_some (he s _ E I fun s1 v I1 t1 i1 => k s1 _ I1 t1 ⟨v, rfl, i1⟩)
theorem sx_return0 {pos : Pos} : SxOk c (.Return none pos) V (.ret (.v .none)) V := fun s Q E I k => wpAny_Return_none (k s _ I (.refl s) ⟨_, rfl, .v _⟩)
theorem sx_break {pos : Pos} : SxOk c (.Break pos) V .brk V := fun s Q E I k => wpAny_Break (k s _ I (.refl s) rfl)
theorem sx_continue {pos : Pos} : SxOk c (.Continue pos) V .cont V := fun s Q E I k => wpAny_Continue (k s _ I (.refl s) rfl)
theorem sx_pass {pos : Pos} : SxOk c (.Pass pos) V .next V := fun s Q E I k => wpAny_Pass (k s _ I (.refl s) rfl)
theorem sx_expr {e : Expr} {pos : Pos} (ok : c.Ok) (he : EvOk c e V p V1) (hc : notComp e = true) : SxOk c (.Expr e pos) V .next V1 := fun s Q E I k => wpAny_Expr_any (he s _ E I fun s1 v I1 t1 i1 => k s1 _ I1 t1 rfl) (by unfold interactive; rw [ok.kind]; rfl) (swaps_no hc)
theorem ex_nil : ExOk c [] V .next V := fun s Q E I k => wpAny_execs_nil (k s _ I (.refl s) rfl)
theorem ex_cons {st : Stmt} {r : List Stmt} {f : PF} (h1 : SxOk c st V .next V1) (h2 : ExOk c r V1 f V2) : ExOk c (st :: r) V f V2 := by
  intro s Q E I k
  refine wpAny_execs_cons (h1 s _ E I fun s1 fl I1 t1 hf => ?_)
  cases hf
  exact h2 s1 Q E I1 fun s2 fl I2 t2 hf => k s2 fl I2 (t1.trans t2) hf
theorem ex_stop {st : Stmt} {r : List Stmt} {f : PF} (h1 : SxOk c st V f V1) (hn : f ≠ .next) : ExOk c (st :: r) V f V1 := by
  intro s Q E I k
  refine wpAny_execs_cons (h1 s _ E I fun s1 fl I1 t1 hf => ?_)
  have := k s1 fl I1 t1 hf
  cases f with
  | next => exact absurd rfl hn
  | brk => cases hf; exact this
  | cont => cases hf; exact this
  | ret p => obtain ⟨v, rfl, _⟩ := hf; exact this
end
end M4
section M5
section
variable {c : Fc} {V V1 V2 V' V'' : View} {p q r : PV} {P : List Prop} {b : Bool}
noncomputable def ObjsOk (T : List Addr) (ρ : List (Addr × Addr)) (objs : List PO) (h : Heap) : Prop := ∀ k po, objs[k]? = some po → ObjAt T ρ h k po
noncomputable def mutsOf (ρ : List (Addr × Addr)) : List Addr := ρ.map (·.2)
noncomputable def CallOk (c : Fc) (f : Value) (args : List PV) (objs : List PO) (r : PV) (objs' : List PO) : Prop :=
  ∀ (s : Shared) (vs : List Value) (Q E : Value → Shared → Prop), Base c.K c.N s.heap → (∀ b ∈ c.T, ∃ o, s.heap.get? b = some o) → Frs c.N c.A s.heap → ObjsOk c.T c.ρ objs s.heap → IsL c.T c.ρ s.heap args vs →
    (∀ s' v, St c.N (mutsOf c.ρ) s s' → Base c.K c.N s'.heap → Frs c.N c.A s'.heap → ObjsOk c.T c.ρ objs' s'.heap → Is c.T c.ρ s'.heap r v → Q v s') → wpAny c.M c.A (call f vs) Q E s
noncomputable def CodeOk (c : Fc) (f : Value) (args : List PV) (objs : List PO) (r : PV) (objs' : List PO) : Prop :=
  ∀ (s : Shared) (vs : List Value) (R : Result → Shared → Prop), Base c.K c.N s.heap → (∀ b ∈ c.T, ∃ o, s.heap.get? b = some o) → Frs c.N c.A s.heap → ObjsOk c.T c.ρ objs s.heap → IsL c.T c.ρ s.heap args vs →
    (∀ s' v, St c.N (mutsOf c.ρ) s s' → Base c.K c.N s'.heap → Frs c.N c.A s'.heap → ObjsOk c.T c.ρ objs' s'.heap → Is c.T c.ρ s'.heap r v → R (.ok (.ret v)) s') → codeAny c.M c.A (.call f ⟨vs, []⟩) R s
theorem CodeOk.call {c : Fc} {f : Value} {args : List PV} {objs objs' : List PO} {r : PV} (h : CodeOk c f args objs r objs') : CallOk c f args objs r objs' := fun s vs Q E B l F O i k => wpAny_call (h s vs _ B l F O i fun s' v t B' F' O' i' => k s' v t B' F' O' i')
theorem mutsOf_sub {L : Addr} {ρ : List (Addr × Addr)} : ∀ b ∈ mutsOf ρ, b ∈ muts L ρ := fun b h => .tail _ h
theorem Inv.called {c : Fc} {V : View} {s s' : Shared} {objs' : List PO} (ok : c.Ok) (I : Inv c V s) (st : St c.N (mutsOf c.ρ) s s') (B : Base c.K c.N s'.heap) (F : Frs c.N c.A s'.heap) (O : ObjsOk c.T c.ρ objs' s'.heap) : Inv c { V with objs := objs' } s' := by
  have nd := List.nodup_cons.mp ok.fx.nodup
  obtain ⟨m, hn, hl⟩ := I.rep.ns
  refine ⟨⟨⟨m, st.keep.frame nd.1 hn, fun x p e => ?_⟩, O⟩, B, fun b hb => let ⟨o, e⟩ := I.live b hb; st.keep.there b o e, F⟩
  obtain ⟨v, e1, e2⟩ := hl x p e
  exact ⟨v, e1, e2.keep (st.keep.sub fun b hb => ok.fx.mem b (mutsOf_sub b hb))⟩
noncomputable def ArgsOk (c : Fc) (es : List Expr) (V : View) (ps : List PV) (V' : View) : Prop :=
  ∀ (s : Shared) (pos : Pos) (Q : List Value → Shared → Prop) (E : Value → Shared → Prop), Inv c V s → (∀ s' vs, Inv c V' s' → St c.N c.muts s s' → IsL c.T c.ρ s'.heap ps vs → Q vs s') → wpAny c.M c.A (spliced (backTo pos (starEach es c.env))) Q E s
set_option backward.match.sparseCases false in
noncomputable def noStar : Expr → Bool
  | .Starred .. => false
  | _ => true
theorem starEach_cons {e : Expr} {es : List Expr} {env : Env} (h : noStar e = true) : starEach (e :: es) env = (false, eval e env) :: starEach es env := by
  cases e <;> first | rfl | exact nof h
theorem args_nil : ArgsOk c [] V [] V := fun s pos Q E I h => Calls.spliced_nil (h s [] I (.refl s) .nil)
theorem args_cons {e : Expr} {es : List Expr} {ps : List PV} (ok : c.Ok) (he : EvOk c e V p V1) (hr : ArgsOk c es V1 ps V2) (hs : noStar e = true) : ArgsOk c (e :: es) V (p :: ps) V2 := by
  intro s pos Q E I h
  rw [starEach_cons hs]
  exact Calls.spliced_cons (he s _ E I fun s1 v I1 t1 i1 => hr s1 pos _ E I1 fun s2 vs I2 t2 i2 => h s2 _ I2 (t1.trans t2) (.cons (i1.st ok t2) i2))
theorem starEach_any : ∀ {es : List Expr} {env : Env} {pos : Pos}, es.all noStar = true → (backTo pos (starEach es env)).any (·.1) = false
  | [], _, _, _ => rfl
  | e :: es, env, pos, h => by
    rw [List.all_cons, Bool.and_eq_true] at h
    rw [starEach_cons h.1]
    show (false || (backTo pos (starEach es env)).any (·.1)) = false
    rw [starEach_any h.2]; rfl
set_option backward.match.sparseCases false in
noncomputable def dataF : Data → Bool
  | .fields _ => true
  | _ => false
theorem dataF_is {d : Data} (h : dataF d = true) : ∃ vs, d = .fields vs := by
  cases d with
  | fields vs => exact ⟨vs, rfl⟩
  | _ => exact nof h
set_option backward.match.sparseCases false in
noncomputable def boundIn (K : Frag) (a : Addr) : Bool := match K.lookup a with
  | some o => o.cls == .type "builtin_function_or_method" && dataF o.data
  | none => false
theorem boundIn_is {K : Frag} {a : Addr} (h : boundIn K a = true) : ∃ d vs sl, K.lookup a = some ⟨.type "builtin_function_or_method", d, .fields vs, sl⟩ := by
  unfold boundIn at h
  cases e : K.lookup a with
  | none => rw [e] at h; exact nof h
  | some o =>
    rw [e] at h
    obtain ⟨cls, dict, data, sl⟩ := o
    obtain ⟨h1, h2⟩ := Bool.and_eq_true_iff.mp h
    obtain ⟨vs, rfl⟩ := dataF_is h2
    cases beq_iff_eq.mp h1
    exact ⟨_, _, _, rfl⟩
set_option backward.match.sparseCases false in
noncomputable def keepOk (K : Frag) : Value → Bool
  | .ref a => keepIn K (.ref a) || boundIn K a
  | .builtin _ => true
  | .type _ => true
  | _ => false
theorem keeps_ok {M : Model} {K : Frag} {f : Value} (hk : keepOk K f = true) (h : Heap) (X : K.In h) : ∃ k, (k = Keeper.frame ∨ k = Keeper.machine ∨ k = Keeper.boundFrame) ∧ Looks M h (keeperOf f) k := by
  cases f with
  | ref a =>
    rcases Bool.or_eq_true_iff.mp hk with hk | hk
    · exact keeps_K (K := K) (f := .ref a) hk h X
    · obtain ⟨_, _, _, e⟩ := boundIn_is hk
      exact ⟨.machine, .inr (.inl rfl), (Looks.ld (part := none) (X _ _ e)).andThen .now⟩
  | builtin _ => exact ⟨.machine, .inr (.inl rfl), .now⟩
  | type _ => exact ⟨.machine, .inr (.inl rfl), .now⟩
  | _ => exact nof hk
theorem evalArgs_any {M : Model} {A : Around} {E : Value → Shared → Prop} {s : Shared} {f : Value} {args : List (Bool × Sem Value)} {Q : Args → Shared → Prop} (hn : args.any (·.1) = false) (h : wpAny M A (spliced args) (fun vs s' => Q ⟨vs, []⟩ s') E s) : wpAny M A (evalArgs f true args []) Q E s := by
  cases args with
  | nil =>
    unfold evalArgs
    show wpAny M A (spliced [] >>= _) Q E s
    refine wpAny_bind (wpAny_mono h (fun vs s' h' => ?_) fun _ _ x => x)
    refine wpAny_bind (wpAny_pure ?_)
    refine wpAny_holding ?_
    exact wpAny_bind (wpAny_pure (wpAny_bind (wpAny_pure (wpAny_pure h'))))
  | cons x r =>
    obtain ⟨b, x⟩ := x
    cases b with
    | true => cases hn
    | false => exact Calls.evalArgs_plain h
theorem callWith_ok {f : Value} {first : List Value} {es : List Expr} {ps : List PV} {pos : Pos} {s : Shared} {Q E : Value → Shared → Prop} (hk : keepOk c.K f = true) (hs : es.all noStar = true) (ha : ArgsOk c es V ps V1) (I : Inv c V s)
    (h : ∀ s' vs, Inv c V1 s' → St c.N c.muts s s' → IsL c.T c.ρ s'.heap ps vs → wpAny c.M c.A (call f (first ++ vs)) Q E s') : wpAny c.M c.A (callWith pos f first (backTo pos (starEach es c.env)) []) Q E s := by
  refine callWith_of (P := c.K.In) (by rw [starEach_any hs]; rfl) (keeps_ok hk) (evalArgs_any (starEach_any hs) ?_)
  exact ha s pos _ E I fun s' vs I' t' i' => ⟨I'.base.k, h s' vs I' t' i'⟩
theorem ev_call {x : Str} {px pos : Pos} {es : List Expr} {ps : List PV} {f : Value} (ok : c.Ok) (hx : EvOk c (.Name x px) V (.v f) V) (hk : keepOk c.K f = true) (hs : es.all noStar = true) (ha : ArgsOk c es V ps V1) {objs' : List PO} (hc : CallOk c f ps V1.objs r objs') : EvOk c (.Call (.Name x px) es [] pos) V r { V1 with objs := objs' } := by
  intro s Q E I h
  refine wpAny_Call_NameR (hx s _ E I fun s1 v I1 t1 i1 => ?_)
  cases i1
  refine callWith_ok hk hs ha I1 fun s2 vs I2 t2 i2 => ?_
  exact hc s2 vs Q E I2.base I2.live I2.frs I2.rep.objs i2 fun s3 v t3 B3 F3 O3 i3 => h s3 v (I2.called ok t3 B3 F3 O3) ((t1.trans t2).trans (t3.sub mutsOf_sub)) i3
noncomputable def methOk (K : Frag) (C : Addr) (n : Str) (f : Addr) : Bool := plainGet K C n && findIn K (.ref C) n == some (some (.ref f)) && isFn K (.ref f)
theorem mpos {o : Expr} {env : Env} {apos pos : Pos} (h : (apos.endLine == pos.line) = true) : methodCallPos true o env apos pos = pure pos := by
  show (if (!true || apos.endLine == pos.line) = true then _ else _) = _
  rw [h]; rfl
theorem mc_eq {o : Expr} {name : Str} {apos pos : Pos} {args : List Expr} {env : Env} (hb : attributeBase o name env (eval o env) = eval o env) (hl : (apos.endLine == pos.line) = true) (hs : args.all noStar = true) (hn : args.length < 30) :
    eval (.Call (.Attribute o name apos) args [] pos) env = (do
      let ov ← eval o env
      standAt apos.atName
      let (f, first) ← holding [ov] (getMethod ov name (do return (← importBound o env).getD true))
      callWith pos f first (backTo pos (starEach args env)) []) := by
  rw [arm_eval_Call, hb]
  have hf : methodCallForm (args.length + ([] : List Keyword).length) (backTo pos (starEach args env)) (backToKw pos (keywordEach [] env)) = true := by
    unfold methodCallForm
    have : (backTo pos (starEach args env)).all (fun x => !x.1) = true := by
      have := starEach_any (env := env) (pos := pos) hs
      rw [List.all_eq_not_any_not]
      simpa using this
    rw [this]
    show (true && true && decide (args.length + 0 + 0 < 30)) = true
    simp; omega
  unfold methodCall
  rw [hf, mpos hl]
  rfl
theorem base_name {x : Str} {px : Pos} {name : Str} {env : Env} {t : Sem Value} : attributeBase (.Name x px) name env t = t := rfl
theorem get_meth {n : Str} {k : Nat} {C f : Addr} {att : List (Str × PV)} {a d : Addr} {s : Shared} {Q : Value × List Value → Shared → Prop} {E : Value → Shared → Prop} {pl : Sem Bool} (I : Inv c V s) (hr : c.ρ[k]? = some (a, d)) (ho : V.objs[k]? = some (.inst C att)) (hm : methOk c.K C n f = true) (hn : att.lookup n = none)
    (h : Q (.ref f, [.ref a]) s) : wpAny c.M c.A (getMethod (.ref a) n pl) Q E s := by
  obtain ⟨a', dx, es, n', e1, na, ea, ed, m⟩ := I.rep.objs k _ ho
  rw [hr] at e1; cases e1
  obtain ⟨h12, h3⟩ := Bool.and_eq_true_iff.mp hm
  obtain ⟨h1, h2⟩ := Bool.and_eq_true_iff.mp h12
  have IA : InstAt s.heap a ⟨.ref C, some d, .plain, #[]⟩ C (some (dictOf es n')) := ⟨ea, rfl, rfl, ed⟩
  exact method_fn I.base.k IA (plainGet_of h1).1 (plainGet_of h1).2 (beq_iff_eq.mp h2) (beq_iff_eq.mp h3) (by show (lookIn n (dictOf es n')).map _ = _; rw [lookIn_dict, m.get.2 hn]; rfl) h
theorem ev_meth {b : Expr} {n : Str} {apos pos : Pos} {es : List Expr} {ps : List PV} {k : Nat} {C f : Addr} {att : List (Str × PV)} (hb : attributeBase b n c.env (eval b c.env) = eval b c.env) (ok : c.Ok) (hy : EvOk c b V (.o k) V1) (ho : V1.objs[k]? = some (.inst C att)) (hm : methOk c.K C n f = true) (hn : att.lookup n = none) (hk : keepOk c.K (.ref f) = true)
    (hl : (apos.endLine == pos.line) = true) (hs : es.all noStar = true) (h30 : es.length < 30) (ha : ArgsOk c es V1 ps V2) {objs' : List PO} (hc : CallOk c (.ref f) (.o k :: ps) V2.objs r objs') : EvOk c (.Call (.Attribute b n apos) es [] pos) V r { V2 with objs := objs' } := by
  intro s Q E I h
  rw [mc_eq hb hl hs h30]
  refine wpAny_bind (hy s _ E I fun s1 v I1 t1 i1 => wpAny_bind (wpAny_standAt (wpAny_bind (wpAny_holding ?_))))
  cases i1 with
  | o e =>
    refine get_meth I1 e ho hm hn ?_
    refine callWith_ok hk hs ha I1 fun s2 vs I2 t2 i2 => ?_
    exact hc s2 _ Q E I2.base I2.live I2.frs I2.rep.objs (.cons (.o e) i2) fun s3 v t3 B3 F3 O3 i3 => h s3 v (I2.called ok t3 B3 F3 O3) ((t1.trans t2).trans (t3.sub mutsOf_sub)) i3
set_option backward.match.sparseCases false in
noncomputable def headRef : List Value → Option Addr
  | .ref f :: _ => some f
  | _ => none
theorem headRef_is {l : List Value} {f : Addr} (h : headRef l = some f) : ∃ r, l = .ref f :: r := by
  cases l with
  | nil => exact no h
  | cons v r =>
    cases v with
    | ref a => cases h; exact ⟨r, rfl⟩
    | _ => exact no h
noncomputable def propOk (K : Frag) (C : Addr) (n : Str) (pr fget : Addr) : Bool := plainGet K C n && (clsIn K C).isSome && findIn K (.ref C) n == some (some (.ref pr)) && specialIn K (.ref pr) "__get__" == some (some (.builtin "property.__get__")) && takesIn K (.ref pr) == some true && ((recIn K pr "property").bind headRef) == some fget
theorem ev_prop {y n : Str} {py pos : Pos} {k : Nat} {C pr f : Addr} {att : List (Str × PV)} (ok : c.Ok) (hy : EvOk c (.Name y py) V (.o k) V) (ho : V.objs[k]? = some (.inst C att)) (hp : propOk c.K C n pr f = true) (hh : handedP r = true) (hc : CodeOk { c with A := c.A.in1 } (.ref f) [.o k] V.objs r V.objs) :
    EvOk c (.Attribute (.Name y py) n pos) V r V := by
  intro s Q E I h
  refine Attribute_Name_ (hy s _ E I fun s' v I' st i => ?_)
  obtain ⟨a, dx, es, n', e1, na, ea, ed, m⟩ := I'.rep.objs k _ ho
  cases i with
  | o e =>
    have e0 := e
    rw [e1] at e; cases e
    unfold propOk at hp
    simp only [Bool.and_eq_true] at hp
    obtain ⟨⟨⟨⟨⟨h1, h2⟩, h3⟩, h4⟩, h5⟩, h6⟩ := hp
    have IA : InstAt s'.heap a ⟨.ref C, some dx, .plain, #[]⟩ C (some (dictOf es n')) := ⟨ea, rfl, rfl, ed⟩
    obtain ⟨l, hr, h6⟩ := ob (beq_iff_eq.mp h6)
    obtain ⟨rest, rfl⟩ := headRef_is h6
    · refine get_bind I'.base.k IA (plainGet_of h1).1 (findObj_data h2 (beq_iff_eq.mp h3) (beq_iff_eq.mp h4) (beq_iff_eq.mp h5)) (plainGet_of h1).2 (wpAny_call (prop_get (s := { s' with toks := s'.toks + 1 }) I'.base.k hr ?_))
      refine hc { s' with toks := s'.toks + 1 } [.ref a] _ I'.base I'.live I'.frs I'.rep.objs (.cons (.o e0) .nil) fun s2 v t2 B2 F2 O2 i2 => ?_
      show wpAny c.M c.A (handedOut v) Q E s2
      rw [handedOut_of (handed_is i2 hh)]
      exact wpAny_pure (h s2 v ((I'.toks _).called ok t2 B2 F2 O2) ((st.trans (.toks _)).trans (t2.sub mutsOf_sub)) i2)
theorem fresh_get (h : Heap) : h.get? h.objs.size = none := by
  cases q : h.get? h.objs.size with
  | none => rfl
  | some o => exact absurd (Heap.lt_size q) (Nat.lt_irrefl _)
theorem Inv.pushed {s : Shared} {V : View} (ok : c.Ok) (I : Inv c V s) (o : Obj) (tk : Nat) : Inv c V { s with heap := s.heap.push o, toks := tk } := I.keep (s' := { s with heap := s.heap.push o, toks := tk }) ok (.push _ _)
theorem St.pushed {N : Nat} {F : List Addr} {s : Shared} (o : Obj) (tk : Nat) : St N F s { s with heap := s.heap.push o, toks := tk } := ⟨.push _ _, .refl _, rfl⟩
theorem fresh_notT {s : Shared} {V : View} (I : Inv c V s) : s.heap.objs.size ∉ c.T := fun hb => by
  obtain ⟨o, e⟩ := I.live _ hb
  rw [fresh_get] at e; cases e
theorem ev_tuple {es : List Expr} {ps : List PV} {k : Nat} {pos : Pos} (ok : c.Ok) (ha : ArgsOk c es V ps V1) (hz : ps.length ≤ 1000) : EvOk c (.Tuple es k pos) V (.t ps) V1 := by
  intro s Q E I h
  refine Tuple_ (ha s pos _ E I fun s1 vs I1 t1 i1 => ?_)
  have hl := i1.length
  refine wpAny_newObj_type ?_ (by show vs.toArray.size ≤ sizeLine; rw [List.size_toArray, sizeLine_eq]; omega)
  exact h _ _ (I1.pushed ok _ _) (t1.trans (.pushed _ _)) (.t (fresh_notT I1) (Heap.get?_push_size _ rfl) rfl rfl (by simpa using i1.keep (.push (N := c.N) _ _)))
theorem ev_list {es : List Expr} {ps : List PV} {pos : Pos} (ok : c.Ok) (ha : ArgsOk c es V ps V1) (hz : ps.length ≤ 1000) : EvOk c (.List es pos) V (.l ps) V1 := by
  intro s Q E I h
  refine List_ (ha s pos _ E I fun s1 vs I1 t1 i1 => ?_)
  have hl := i1.length
  refine wpAny_newObj_type ?_ (by show vs.toArray.size ≤ sizeLine; rw [List.size_toArray, sizeLine_eq]; omega)
  exact h _ _ (I1.pushed ok _ _) (t1.trans (.pushed _ _)) (.l (fresh_notT I1) (Heap.get?_push_size _ rfl) rfl rfl (by simpa using i1.keep (.push (N := c.N) _ _)))
set_option backward.match.sparseCases false in
noncomputable def idxP (p : PV) (k : Int) : VP := match p with
  | .l xs => some (xs.getD k.toNat (.v .none), [0 ≤ k, k < (xs.length : Int), Ln xs])
  | _ => none
set_option backward.match.sparseCases false in
noncomputable def plainIdx : Expr → Bool
  | .Constant .. => true
  | .UnaryOp .. => true
  | .Name .. => true
  | .BinOp .. => true
  | _ => false
theorem getD_at {T : List Addr} {ρ : List (Addr × Addr)} {h : Heap} {xs : List PV} {vs : List Value} (i : IsL T ρ h xs vs) {k : Nat} (hk : k < xs.length) : ∃ y, vs[k]? = some y ∧ Is T ρ h (xs.getD k (.v .none)) y := by
  have e : xs[k]? = some (xs.getD k (.v .none)) := by rw [List.getD_eq_getElem?_getD, List.getElem?_eq_getElem hk]; rfl
  exact i.get e
section
variable {value slice : Expr} {k : Int} {t : Tok} {v : Value} {s : Shared} {Q E : Value → Shared → Prop} {T T0 : List Addr} {ρ : List (Addr × Addr)} {prog : Program} {w : World} {A : Around} {a : Addr} {ob : Obj} {vs : Array Value} {n : Nat} {xs : List PV}
theorem sub_plain (hs : plainIdx slice = true) (a : Addr) : subscripted slice false (.ref a) (.int k t) = operate [.ref a, .int k t] (getItem (.ref a) (.int k t)) := by cases slice <;> first | rfl | exact nof hs
theorem ix1 (m : Nat) : (((m + 1 : Nat) : Int) - 1).toNat = m := by rw [Int.natCast_add]; exact (congrArg Int.toNat (Int.add_sub_cancel (m : Int) 1)).trans (Int.toNat_natCast m)
theorem ix2 {n m : Nat} (h : m < n) : n - 1 - m = (Int.negSucc m + n).toNat := by
  show _ = (Int.subNatNat n (m + 1)).toNat
  rw [Int.subNatNat_of_le h, Int.toNat_natCast, Nat.sub_sub, Nat.add_comm]
theorem ix3 {n m : Nat} (h : m < n) : -(n : Int) ≤ Int.negSucc m := by rw [Int.negSucc_eq]; exact Int.neg_le_neg (Int.ofNat_le.mpr h)
theorem ix5 {n m : Nat} (h : m < n) (hz : n ≤ 1000000) : -2 ^ 63 ≤ Int.negSucc m := by rw [Int.negSucc_eq]; omega
theorem ix4 {k : Int} {n : Nat} (h1 : 0 ≤ k) (h2 : k < (n : Int)) : k.toNat < n := (Int.toNat_lt h1).mpr h2
theorem idx_l (hs : plainIdx slice = true) (z : SeqI T0 s.heap "list" v a ob vs n) (il : IsL T ρ s.heap xs vs.toList) (h1 : 0 ≤ k) (h2 : k < (xs.length : Int)) (h3 : Ln xs) (h : ∀ x, Is T ρ s.heap (xs.getD k.toNat (.v .none)) x → Q x s) : wpAny (model prog w) A (subscriptTail value slice v (.int k t)) Q E s := by
  have hl := il.length
  have z3 := h3.sz il
  obtain ⟨y, e1, e2⟩ := getD_at il (k := k.toNat) (ix4 h1 h2)
  cases z.v
  exact tail_any z.isList.typeIs slot_list_getitem.lookup (wpAny_getItem_list z.isList h1 (by omega) (by simpa using e1) (h y e2)) (sub_plain hs a)
theorem idx_r (hs : plainIdx slice = true) (z : SeqI T0 s.heap "list" v a ob vs n) (il : IsL T ρ s.heap xs vs.toList.reverse) (h1 : k < 0) (h2 : -k ≤ (xs.length : Int)) (h3 : Ln xs) (h : ∀ x, Is T ρ s.heap (xs.getD (-k - 1).toNat (.v .none)) x → Q x s) : wpAny (model prog w) A (subscriptTail value slice v (.int k t)) Q E s := by
  obtain ⟨m, rfl⟩ : ∃ m : Nat, k = Int.negSucc m := by
    cases k with
    | ofNat m => exact absurd h1 (Int.not_lt.mpr (Int.natCast_nonneg m))
    | negSucc m => exact ⟨m, rfl⟩
  have em : (-Int.negSucc m - 1).toNat = m := by rw [Int.neg_negSucc]; exact ix1 m
  rw [em] at h
  have h2 : m < xs.length := by rw [Int.neg_negSucc] at h2; exact Int.ofNat_le.mp h2
  have hl : xs.length = vs.size := il.length.trans List.length_reverse
  have z3 : vs.size ≤ 1000000 := hl ▸ (show xs.length ≤ 1000000 from h3)
  obtain ⟨y, e1, e2⟩ := getD_at il h2
  cases z.v
  have lt : m < vs.size := hl ▸ h2
  rw [List.getElem?_reverse (by rw [Array.length_toList]; exact lt), Array.length_toList, ix2 lt] at e1
  exact tail_any z.isList.typeIs slot_list_getitem.lookup (wpAny_getItem_list_neg z.isList h1 (ix3 lt) (ix5 lt z3) (by simpa using e1) (h y e2)) (sub_plain hs a)
end
theorem idx_sound {value slice : Expr} {k : Int} {t : Tok} {v : Value} {s : Shared} {Q E : Value → Shared → Prop} {T : List Addr} {ρ : List (Addr × Addr)} {prog : Program} {w : World} {A : Around} (hs : plainIdx slice = true) (e : idxP p k = some (r, P)) (hP : AllP P) (i : Is T ρ s.heap p v) (h : ∀ x, Is T ρ s.heap r x → Q x s) :
    wpAny (model prog w) A (subscriptTail value slice v (.int k t)) Q E s := by
  cases p with
  | l xs => cases e; obtain ⟨a, _, _, _, z, il⟩ := i.il; exact idx_l hs z il hP.1 hP.2.1 hP.2.2.1 h
  | _ => exact no e
theorem ev_item {b idx : Expr} {pos : Pos} {k : Int} (ok : c.Ok) (hb : EvOk c b V p V1) (hi : EvOk c idx V1 (.i k) V2) (hs : plainIdx idx = true) (e : idxP p k = some (r, P)) (hP : AllP P) : EvOk c (.Subscript b idx pos) V r V2 := by
  intro s Q E I h
  refine Subscript_ (hb s _ E I fun s1 v I1 t1 i1 => hi s1 _ E I1 fun s2 u I2 t2 i2 => ?_)
  obtain ⟨t, rfl⟩ := i2.ii
  exact idx_sound hs e hP (i1.st ok t2) fun x ix => h s2 x I2 (t1.trans t2) ix
theorem item_on_str {prog : Program} {w : World} {A : Around} {x : Str} {t : Tok} {i : Value} {Q E : Value → Shared → Prop} {s : Shared} (h : ItemOn (model prog w) A E (.str x t) i Q s) : wpAny (model prog w) A (getItem (.str x t) i) Q E s := let ⟨_, _, _, _, hg⟩ := h; hg
noncomputable def PartOk (c : Fc) (e : Option Expr) (V : View) (k : Option Int) : Prop :=
  ∀ (s : Shared) (Q E : Value → Shared → Prop), Inv c V s → (∀ s' v, Inv c V s' → St c.N c.muts s s' → IsPart v k → Q v s') → wpAny c.M c.A (evalPart e c.env) Q E s
theorem part_none : PartOk c none V none := fun s Q E I h => wpAny_pure (h s _ I (.refl s) .none)
theorem part_some {e : Expr} {k : Int} (he : EvOk c e V (.i k) V) : PartOk c (some e) V (some k) := fun s Q E I h => he s Q E I fun s' v I' t i => by
  obtain ⟨u, rfl⟩ := i.ii
  exact h s' _ I' t (.int _ _)
set_option backward.match.sparseCases false in
noncomputable def sliceL (xs : List PV) : Option Int → Option Int → VP
  | none, some b => some (.l (xs.take b.toNat), [0 ≤ b, Ln xs])
  | _, _ => none
set_option backward.match.sparseCases false in
noncomputable def sliceP (p : PV) (lo up : Option Int) : VP := match p with
  | .s x => some (.s (Txt.slice x lo up), [x.length ≤ sizeLine])
  | .l xs => sliceL xs lo up
  | _ => none
theorem slice_list_raw {value : Expr} {sp : Pos} {lo up : Option Expr} {vl vu v : Value} {i j : Option Int} {a : Addr} {ob : Obj} {vs : Array Value} {n : Nat} {s : Shared} {T : List Addr} {Q E : Value → Shared → Prop} {prog : Program} {w : World} {A : Around} (z : SeqI T s.heap "list" v a ob vs n) (pl : IsPart vl i) (pu : IsPart vu j) (hz : vs.size ≤ sizeLine)
    (h : Q (.ref (s.heap.objs.size + 1)) { s with heap := (s.heap.push { cls := .type "slice", data := .fields #[vl, vu, .none] }).push { cls := .type "list", data := .seq (slicePick vs i j none) } }) :
    wpAny (model prog w) A (subscriptTail value (.Slice lo up none sp) v (.ref s.heap.objs.size)) Q E { s with heap := s.heap.push { cls := .type "slice", data := .fields #[vl, vu, .none] } } := by
  cases z.v
  refine tail_any (T := "list") (ops := [.ref s.heap.objs.size, .ref a]) ⟨ob, Heap.get?_push_of_some _ z.at_, z.cls⟩ list_getitem_lookup (wpAny_getItem_list_slice (sl := s.heap.objs.size) (z.isList.push _) (Heap.IsSliceOf.new ..) pl pu .none (by simp) ?_ hz) (by with_unfolding_all rfl)
  show Q (.ref (s.heap.push _).objs.size) _
  rw [Heap.size_push]
  exact h
theorem fresh1 {T : List Addr} {h : Heap} {o : Obj} (live : ∀ b ∈ T, ∃ o, h.get? b = some o) : ∀ b ∈ T, ∃ o', (h.push o).get? b = some o' := fun b hb => let ⟨o', e⟩ := live b hb; ⟨o', Heap.get?_push_of_some _ e⟩
theorem up_two {N : Nat} {s : Shared} (o o' : Obj) : St N [] s { s with heap := (s.heap.push o).push o' } := St.trans (s' := { s with heap := s.heap.push o }) (.push _) ⟨.push _ _, .refl _, rfl⟩
section
variable {value : Expr} {sp : Pos} {lo up : Option Expr} {vl vu v : Value} {i j : Option Int} {s : Shared} {T : List Addr} {ρ : List (Addr × Addr)} {N : Nat} {Q E : Value → Shared → Prop} {prog : Program} {w : World} {A : Around} {a : Addr} {ob : Obj} {vs : Array Value} {n : Nat} {ys : List PV}
theorem slice_l (live : ∀ b ∈ T, ∃ o, s.heap.get? b = some o) (pl : IsPart vl i) (pu : IsPart vu j) (h : ∀ s' x, St N [] s s' → Is T ρ s'.heap (.l ys) x → Q x s') (z : SeqI T s.heap "list" v a ob vs n) (hz : vs.size ≤ sizeLine) (il : IsL T ρ s.heap ys (slicePick vs i j none).toList) : wpAny (model prog w) A (subscriptTail value (.Slice lo up none sp) v (.ref s.heap.objs.size)) Q E { s with heap := s.heap.push { cls := .type "slice", data := .fields #[vl, vu, .none] } } := by
  refine slice_list_raw z pl pu hz (h _ _ (up_two _ _) ?_)
  have := is_new (T := T) (h := s.heap.push { cls := .type "slice", data := .fields #[vl, vu, .none] }) (n := 0) (fresh1 live) (il.keep (.push (N := 0) _ _))
  rw [Heap.size_push] at this
  simpa using this
theorem slice_s {x : Str} {t : Tok} (pl : IsPart vl i) (pu : IsPart vu j) (hx : x.length ≤ sizeLine) (h : ∀ s' y, St N [] s s' → Is T ρ s'.heap (.s (Txt.slice x i j)) y → Q y s') : wpAny (model prog w) A (subscriptTail value (.Slice lo up none sp) (.str x t) (.ref s.heap.objs.size)) Q E { s with heap := s.heap.push { cls := .type "slice", data := .fields #[vl, vu, .none] } } := by
  have kp : KeptH fun hp => Keep N [] s.heap hp := fun hp ob k => k.trans (.push hp ob)
  have fin : ∀ h' t' k, Keep N [] s.heap h' → Q (.str (Txt.slice x i j) t') { s with heap := h', toks := k } := fun h' t' k kk => h { s with heap := h', toks := k } _ ⟨kk, .refl _, rfl⟩ (.s _ _)
  refine tail_any (T := "str") (ops := [.ref s.heap.objs.size, .str _ t]) (typeIs_str _ _ _) F.slot_str_getitem.lookup ?_ (by with_unfolding_all rfl)
  cases pl with
  | none => cases pu with
    | none => exact item_on_str (SBH.sliceItem_nn kp (.refl _) fin hx)
    | int b u => exact item_on_str (SBH.sliceItem_ns kp (.refl _) fin hx)
  | int a t => cases pu with
    | none => exact item_on_str (SBH.sliceItem_sn kp (.refl _) fin hx)
    | int b u => exact item_on_str (SBH.sliceItem_ss kp (.refl _) fin hx)
theorem sz_line {xs : List PV} {l : List Value} (h : Ln xs) (il : IsL T ρ s.heap xs l) (e : l.length = vs.size) : vs.size ≤ sizeLine := by
  have := h.sz il
  rw [e] at this
  rw [sizeLine_eq]; omega
end
theorem slice_sound {value : Expr} {sp : Pos} {lo up : Option Expr} {vl vu v : Value} {i j : Option Int} {s : Shared} {T : List Addr} {ρ : List (Addr × Addr)} {N : Nat} {Q E : Value → Shared → Prop} {prog : Program} {w : World} {A : Around} (live : ∀ b ∈ T, ∃ o, s.heap.get? b = some o) (e : sliceP p i j = some (r, P)) (hP : AllP P) (iv : Is T ρ s.heap p v) (pl : IsPart vl i) (pu : IsPart vu j)
    (h : ∀ s' x, St N [] s s' → Is T ρ s'.heap r x → Q x s') : wpAny (model prog w) A (subscriptTail value (.Slice lo up none sp) v (.ref s.heap.objs.size)) Q E { s with heap := s.heap.push { cls := .type "slice", data := .fields #[vl, vu, .none] } } := by
  cases p with
  | s x =>
    cases e
    obtain ⟨t, rfl⟩ := iv.is
    exact slice_s pl pu hP.1 h
  | l xs =>
    obtain ⟨a, ob, vs, n, z, il⟩ := iv.il
    cases i with
    | none => cases j with
      | none => exact no e
      | some b =>
        cases e
        obtain ⟨m, rfl⟩ : ∃ m : Nat, b = (m : Int) := ⟨b.toNat, (Int.toNat_of_nonneg hP.1).symm⟩
        refine slice_l live pl pu h z (sz_line hP.2.1 il Array.length_toList) ?_
        rw [slicePick_upto', Int.toNat_natCast]
        exact il.take m
    | some b => exact no e
  | _ => exact no e
theorem ev_slice {b : Expr} {lo up : Option Expr} {sp pos : Pos} {i j : Option Int} (ok : c.Ok) (hb : EvOk c b V p V) (hlo : PartOk c lo V i) (hup : PartOk c up V j) (e : sliceP p i j = some (r, P)) (hP : AllP P) : EvOk c (.Subscript b (.Slice lo up none sp) pos) V r V := by
  intro s Q E I h
  refine Subscript_ (hb s _ E I fun s1 v I1 t1 i1 => ?_)
  refine wpAny_Slice (hlo s1 _ E I1 fun s2 u I2 t2 i2 => hup s2 _ E I2 fun s3 u' I3 t3 i3 => ?_)
  show wpAny _ _ (pure Value.none) _ _ _
  refine wpAny_pure ?_
  exact slice_sound (N := c.N) I3.live e hP ((i1.st ok t2).st ok t3) i2 i3 fun s4 x t4 ix => h s4 x (I3.keep ok t4.keep) (((t1.trans t2).trans t3).trans t4.all) ix
end
end M5
section N5
section
variable {c : Fc} {V V1 V2 V' : View} {p q r : PV} {P : List Prop} {b : Bool}
theorem Inv.setList {s : Shared} {k a n m : Nat} {vs us : Array Value} {xs : List PV} {h' : Heap} (tk : Nat) (ok : c.Ok) (I : Inv c V s) (hr : c.ρ[k]? = some (a, a)) (ea : s.heap.get? a = some ⟨.type "list", none, .seq vs n, #[]⟩) (sb : Heap.SameBut a s.heap h') (ea' : h'.get? a = some ⟨.type "list", none, .seq us m, #[]⟩) (i : IsL c.T c.ρ s.heap xs us.toList.reverse) :
    Inv c { V with objs := V.objs.set k (.list xs) } { s with heap := h', toks := tk } ∧ St c.N c.muts s { s with heap := h', toks := tk } := by
  have dT : a ∈ c.T := ok.fx.mem a (muts_at hr)
  have kT : Keep c.N c.T s.heap h' := .sameBut sb ea' dT
  have kd : Keep c.N [a] s.heap h' := .sameBut sb ea' (.head _)
  refine ⟨⟨I.rep.change ok.fx hr sb ⟨a, us, m, hr, ea', i.keep kT⟩, I.base.keep (T := [a]) ok.lowK (fun b hb => ?_) ok.lo kd, fun b hb => let ⟨o, e⟩ := I.live b hb; kd.there b o e, I.frs.one kd (.inl ⟨_, ea, show Value.type "list" ≠ Value.type "frame" by decide⟩)⟩, kd.sub fun b hb => ?_, .refl _, rfl⟩
  · rcases List.mem_singleton.mp hb with rfl; exact ok.fx.low _ dT
  · rcases List.mem_singleton.mp hb with rfl; exact muts_at hr
noncomputable abbrev LmP := Option (PV × List PV × List Prop)
set_option backward.match.sparseCases false in
noncomputable def lmPop : List PV → LmP
  | [] => none
  | x :: ys => some (x, ys, [Ln (x :: ys)])
noncomputable def lmP (a : Str) (xs ps : List PV) : LmP := if a = "append" then (one ps).bind fun p => some (.v .none, p :: xs, [Ln xs]) else none
theorem lm_get {a : Str} {D n : Nat} {vs : Array Value} {s : Shared} {xs xs' ps : List PV} {M : Model} {A : Around} {E : Value → Shared → Prop} {pl : Sem Bool} {Q : Value × List Value → Shared → Prop} (e : lmP a xs ps = some (r, xs', P)) (ea : s.heap.get? D = some ⟨.type "list", none, .seq vs n, #[]⟩) (h : Q (.builtin "list.append", [.ref D]) s) : wpAny M A (getMethod (.ref D) a pl) Q E s := by
  obtain ⟨g, _⟩ := oi e
  subst g
  exact getMethod_builtin ⟨_, ea, rfl⟩ PySem.F.plainAttrs_list PySem.F.slot_list_append PySem.F.type_list_append (fun a e => by cases e; exact ⟨_, ea, rfl⟩) h
theorem lm_keep (K : Frag) : keepOk K (.builtin "list.append") = true := rfl
theorem lm_call {a : Str} {D n k : Nat} {vs : Array Value} {s : Shared} {xs xs' ps : List PV} {us : List Value} {Q E : Value → Shared → Prop} (ok : c.Ok) (I : Inv c V s) (hr : c.ρ[k]? = some (D, D)) (e : lmP a xs ps = some (r, xs', P)) (hP : AllP P) (ea : s.heap.get? D = some ⟨.type "list", none, .seq vs n, #[]⟩) (i : IsL c.T c.ρ s.heap xs vs.toList.reverse)
    (ia : IsL c.T c.ρ s.heap ps us) (h : ∀ s' x, Inv c { V with objs := V.objs.set k (.list xs') } s' → St c.N c.muts s s' → Is c.T c.ρ s.heap r x → Q x s') : wpAny c.M c.A (call (.builtin "list.append") (.ref D :: us)) Q E s := by
  obtain ⟨_, e⟩ := oi e
  obtain ⟨p, e1, e⟩ := ob e
  have e1 := one_is e1
  subst e1
  cases e
  cases ia with | cons ix ir =>
  cases ir
  have hz := hP.1.sz i
  rw [List.length_reverse, Array.length_toList] at hz
  refine append_at ea (fun h' sb ea' => ?_) (Nat.le_trans hz sizeM)
  obtain ⟨I', st⟩ := I.setList (xs := _ :: xs) s.toks ok hr ea sb ea' (by rw [Array.toList_push, List.reverse_append]; exact .cons ix i)
  exact h _ _ I' st (.v _)
theorem ev_lmeth {b : Expr} {n : Str} {apos pos : Pos} {es : List Expr} {xs0 xs xs' ps : List PV} {k : Nat} (ok : c.Ok) (hb : attributeBase b n c.env (eval b c.env) = eval b c.env) (hy : EvOk c b V (.o k) V1) (ho1 : V1.objs[k]? = some (.list xs0)) (hl : (apos.endLine == pos.line) = true) (hs : es.all noStar = true) (h30 : es.length < 30)
    (ha : ArgsOk c es V1 ps V2) (ho : V2.objs[k]? = some (.list xs)) (e : lmP n xs ps = some (r, xs', P)) (hP : AllP P) : EvOk c (.Call (.Attribute b n apos) es [] pos) V r { V2 with objs := V2.objs.set k (.list xs') } := by
  intro s Q E I h
  rw [mc_eq hb hl hs h30]
  refine wpAny_bind (hy s _ E I fun s1 v I1 t1 i1 => wpAny_bind (wpAny_standAt (wpAny_bind (wpAny_holding ?_))))
  obtain ⟨D, m, rfl, e1⟩ := i1.io
  obtain ⟨D', vs, n1, e2, ea, im⟩ := I1.rep.objs k _ ho1
  rw [e1] at e2; cases e2
  refine lm_get e ea ?_
  refine callWith_ok (lm_keep c.K) hs ha I1 fun s2 us I2 t2 i2 => ?_
  obtain ⟨D', vs2, n2, e2, ea2, im2⟩ := I2.rep.objs k _ ho
  rw [e1] at e2; cases e2
  exact lm_call ok I2 e1 e hP ea2 im2 i2 fun s3 x I3 t3 ix => h s3 x I3 ((t1.trans t2).trans t3) (ix.st ok t3)
noncomputable def idxO (xs : List PV) (k : Int) : VP := if k < 0 then some (xs.getD (-k - 1).toNat (.v .none), [k < 0, -k ≤ (xs.length : Int), Ln xs]) else none
theorem ev_itemO {b idx : Expr} {pos : Pos} {k : Nat} {j : Int} {xs : List PV} (ok : c.Ok) (hb : EvOk c b V (.o k) V) (hi : EvOk c idx V (.i j) V) (ho : V.objs[k]? = some (.list xs)) (hs : plainIdx idx = true) (e : idxO xs j = some (r, P)) (hP : AllP P) : EvOk c (.Subscript b idx pos) V r V := by
  intro s Q E I h
  refine Subscript_ (hb s _ E I fun s1 v I1 t1 i1 => hi s1 _ E I1 fun s2 u I2 t2 i2 => ?_)
  obtain ⟨t, rfl⟩ := i2.ii
  obtain ⟨D, m, rfl, e1⟩ := i1.io
  obtain ⟨D', vs, n1, e2, ea, im⟩ := I2.rep.objs k _ ho
  rw [e1] at e2; cases e2
  obtain ⟨_, e⟩ := oi e
  cases e
  have z : SeqI [] s2.heap "list" (.ref D) D _ vs n1 := ⟨rfl, (fun z => nomatch z), ea, rfl, rfl⟩
  exact idx_r hs z im hP.1 hP.2.1 hP.2.2.1 fun y iy => h _ y I2 (t1.trans t2) iy
set_option backward.match.sparseCases false in
noncomputable def revP (p : PV) : VP := match p with
  | .l xs => some (.r xs, [Ln xs])
  | _ => none
theorem rev_raw {value st : Expr} {sp : Pos} {t : Tok} {v : Value} {a : Addr} {ob : Obj} {vs : Array Value} {n : Nat} {s : Shared} {T : List Addr} {Q E : Value → Shared → Prop} {prog : Program} {w : World} {A : Around} (z : SeqI T s.heap "list" v a ob vs n) (hz : vs.size ≤ sizeLine)
    (h : Q (.ref (s.heap.objs.size + 1)) { s with heap := (s.heap.push { cls := .type "slice", data := .fields #[.none, .none, .int (-1) t] }).push { cls := .type "list", data := .seq vs.toList.reverse.toArray } }) :
    wpAny (model prog w) A (subscriptTail value (.Slice none none (some st) sp) v (.ref s.heap.objs.size)) Q E { s with heap := s.heap.push { cls := .type "slice", data := .fields #[.none, .none, .int (-1) t] } } := by
  cases z.v
  refine tail_any (T := "list") (ops := [.ref a, .ref s.heap.objs.size]) ⟨ob, Heap.get?_push_of_some _ z.at_, z.cls⟩ list_getitem_lookup (wpAny_getItem_list_slice (sl := s.heap.objs.size) (z.isList.push _) (Heap.IsSliceOf.new ..) .none .none (.int (-1) t) (by decide) ?_ hz) (by with_unfolding_all rfl)
  show Q (.ref (s.heap.push _).objs.size) _
  rw [Heap.size_push, krv_pick]
  exact h
theorem ev_rev {b st : Expr} {sp pos : Pos} (ok : c.Ok) (hb : EvOk c b V p V) (hst : EvOk c st V (.i (-1)) V) (e : revP p = some (r, P)) (hP : AllP P) : EvOk c (.Subscript b (.Slice none none (some st) sp) pos) V r V := by
  intro s Q E I h
  refine Subscript_ (hb s _ E I fun s1 v I1 t1 i1 => ?_)
  refine wpAny_Slice (wpAny_pure (wpAny_pure (hst s1 _ E I1 fun s2 u I2 t2 i2 => ?_)))
  obtain ⟨t, rfl⟩ := i2.ii
  have i1 := i1.st ok t2
  have up2 : ∀ (o o' : Obj), St c.N [] s2 { s2 with heap := (s2.heap.push o).push o' } := fun o o' => St.trans (s' := { s2 with heap := s2.heap.push o }) (.push _) ⟨.push _ _, .refl _, rfl⟩
  have fin : ∀ {o o' : Obj} {v : Value}, Is c.T c.ρ ((s2.heap.push o).push o') r v → Q v { s2 with heap := (s2.heap.push o).push o' } := fun {o o' v} i => h _ v (I2.keep ok (up2 o o').keep) ((t1.trans t2).trans (up2 o o').all) i
  have hsz : ∀ (o : Obj), (s2.heap.push o).objs.size = s2.heap.objs.size + 1 := fun o => Heap.size_push ..
  cases p with
  | l xs =>
    cases e
    obtain ⟨a, ob, vs, n, z, il⟩ := i1.il
    refine rev_raw z (sz_line hP.1 il Array.length_toList) (fin ?_)
    have := is_newr (T := c.T) (h := s2.heap.push { cls := .type "slice", data := .fields #[.none, .none, .int (-1) t] }) (vs := vs.toList.reverse) (n := 0) (fresh1 I2.live) (by rw [List.reverse_reverse]; exact il.keep (.push (N := 0) _ _))
    rwa [hsz] at this
  | _ => exact no e
set_option backward.match.sparseCases false in
noncomputable def nameOf : Expr → Option Str
  | .Name x _ => some x
  | _ => none
set_option backward.match.sparseCases false in
noncomputable def namesOf : List Expr → Option (List Str)
  | [] => some []
  | e :: r => (nameOf e).bind fun x => (namesOf r).map (x :: ·)
theorem nameOf_is {e : Expr} {x : Str} (h : nameOf e = some x) : ∃ p, e = .Name x p := by
  cases e with
  | Name y p => cases h; exact ⟨_, rfl⟩
  | _ => exact no h
set_option backward.match.sparseCases false in
noncomputable def putAll : List Str → List PV → List (Str × PV) → List (Str × PV)
  | x :: xs, p :: ps, l => putAll xs ps (put x p l)
  | _, _, l => l
inductive StoresAre (c : Fc) (E : Value → Shared → Prop) : List Str → List (Value → Sem Unit) → Prop
  | nil : StoresAre c E [] []
  | cons {x : Str} {f : Value → Sem Unit} {xs : List Str} {fs : List (Value → Sem Unit)} : (∀ (v : Value) (s : Shared) (Q : Unit → Shared → Prop), wpAny c.M c.A (storeName c.env x v) Q E s → wpAny c.M c.A (f v) Q E s) → StoresAre c E xs fs → StoresAre c E (x :: xs) (f :: fs)
theorem stores {E : Value → Shared → Prop} (ok : c.Ok) {xs : List Str} {fs : List (Value → Sem Unit)} (hf : StoresAre c E xs fs) : ∀ {ps : List PV} {vs : List Value} {V : View} {s : Shared} {Q : Unit → Shared → Prop}, xs.length = ps.length → (∀ x ∈ xs, c.env.kindOf x = some .local) → Inv c V s → IsL c.T c.ρ s.heap ps vs →
    (∀ s', Inv c ⟨putAll xs ps V.loc, V.objs⟩ s' → St c.N c.muts s s' → Q () s') → wpAny c.M c.A (assignInOrder fs vs) Q E s := by
  induction hf with
  | nil =>
    intro ps vs V s Q hl hk I il h
    cases ps with
    | cons _ _ => simp at hl
    | nil => exact wpAny_pure (h s I (.refl s))
  | cons hf _ ih =>
    intro ps vs V s Q hl hk I il h
    cases il with
    | nil => simp at hl
    | cons i il =>
    refine assignInOrder_cons (hf _ s _ (store_name ok (hk _ (.head _)) I i fun s1 I1 t1 => ?_))
    exact ih (by simpa using hl) (fun y hy => hk y (.tail _ hy)) I1 (il.st ok t1) fun s2 I2 t2 => h s2 I2 (t1.trans t2)
theorem StoresAre.map {E : Value → Shared → Prop} {f : Str → Value → Sem Unit} (hf : ∀ (x : Str) (v : Value) (s : Shared) (Q : Unit → Shared → Prop), wpAny c.M c.A (storeName c.env x v) Q E s → wpAny c.M c.A (f x v) Q E s) (xs : List Str) : StoresAre c E xs (xs.map f) := by
  induction xs with
  | nil => exact .nil
  | cons x r ih => exact .cons (hf x) ih
theorem ext_keep {N : Nat} {b : Addr} {h h' : Heap} (x : Heap.ExtBut b h h') (hb : h.get? b = none) : Keep N [] h h' := .of_all fun a o e => x a o (fun q => by subst q; rw [hb] at e; cases e) e
theorem assignEach_names {E : Value → Shared → Prop} : ∀ {ts : List Expr} {xs : List Str}, namesOf ts = some xs → StoresAre c E xs ((assignEach ts c.env).map (·.2)) ∧ (assignEach ts c.env).findIdx? (·.1) = none ∧ (assignEach ts c.env).length = xs.length
  | [], xs, h => by cases h; exact ⟨.nil, rfl, rfl⟩
  | t :: r, xs, h => by
    obtain ⟨x, h1, h⟩ := ob h
    obtain ⟨ys, h2, h⟩ := map_some h
    subst h
    obtain ⟨p, rfl⟩ := nameOf_is h1
    obtain ⟨b, d, e⟩ := assignEach_names (E := E) h2
    refine ⟨.cons (fun v s Q h => assign_Name h) b, ?_, ?_⟩
    · show List.findIdx? (·.1) ((false, _) :: assignEach r c.env) = none
      rw [List.findIdx?_cons]; simp [d]
    · show (assignEach r c.env).length + 1 = _
      rw [e]; rfl
theorem swaps_sole {t e : Expr} {l : Nat} {env : Env} (h : notComp e = true) : swapsWithSole [t] e l env = pure false := swaps_no (t := some t) h
theorem sx_unpack {ts : List Expr} {k : Nat} {tp pos : Pos} {e : Expr} {xs : List Str} {ps : List PV} (ok : c.Ok) (hh : c.A.handled = none) (hn : namesOf ts = some xs) (hl : xs.length = ps.length) (hk : ∀ x ∈ xs, c.env.kindOf x = some .local) (he : EvOk c e V (.t ps) V1) (hc : notComp e = true)
    (hw : swappedStores [.Tuple ts k tp] e c.env = pure none) : SxOk c (.Assign [.Tuple ts k tp] e pos) V .next { V1 with loc := putAll xs ps V1.loc } := by
  intro s Q E I h
  refine Assign_Tuple (he s _ E I fun s1 v I1 t1 i1 => ?_) (swaps_sole hc) hw
  obtain ⟨a, ob, vs, n, z, il⟩ := i1.it
  cases z.v
  obtain ⟨b1, d1, e1⟩ := assignEach_names (c := c) (E := E) hn
  refine assign_Tuple_tuple hh z.isTuple (by rw [e1, hl, il.length]; simp) d1 fun h' x => ?_
  have kp : Keep c.N [] s1.heap h' := ext_keep x (fresh_get _)
  refine stores ok b1 hl hk (I1.keep (s' := { s1 with heap := h' }) ok kp) (il.keep kp.all) fun s2 I2 t2 => ?_
  exact h s2 _ I2 ((t1.trans (s'' := { s1 with heap := h' }) ⟨kp.all, .refl _, rfl⟩).trans t2) rfl
theorem sx_unpackS {ts : List Expr} {k : Nat} {tp pos : Pos} {e : Expr} {xs : List Str} {ps : List PV} (ok : c.Ok) (hh : c.A.handled = none) (hl : xs.length = ps.length) (hk : ∀ x ∈ xs, c.env.kindOf x = some .local) (he : EvOk c e V (.t ps) V1) (hc : notComp e = true)
    (hw : swappedStores [.Tuple ts k tp] e c.env = pure (some xs)) : SxOk c (.Assign [.Tuple ts k tp] e pos) V .next { V1 with loc := putAll xs.reverse ps.reverse V1.loc } := by
  intro s Q E I h
  refine Assign_Tuple_swapped (he s _ E I fun s1 v I1 t1 i1 => ?_) (swaps_sole hc) hw
  obtain ⟨a, ob, vs, n, z, il⟩ := i1.it
  cases z.v
  have hz : xs.length = vs.size := by rw [hl, il.length]; simp
  rw [hz]
  refine unpackItems_tuple hh z.isTuple fun h' x => ?_
  have kp : Keep c.N [] s1.heap h' := ext_keep x (fresh_get _)
  rw [List.map_reverse]
  rw [← List.map_reverse]
  refine stores ok (StoresAre.map (fun x v s Q h => bindName_ h) xs.reverse) (by simpa using hl) (fun x hx => hk x (List.mem_reverse.mp hx)) (I1.keep (s' := { s1 with heap := h' }) ok kp) (il.keep (kp.all (T := c.T))).reverse fun s2 I2 t2 => ?_
  exact h s2 _ I2 ((t1.trans (s'' := { s1 with heap := h' }) ⟨kp.all, .refl _, rfl⟩).trans t2) rfl
end
end N5
section D2
open PySem PySem.W PyProof.Rows PySem.Calls
theorem plain_dq : PlainAttrs "collections.deque" :=
  ⟨⟨"collections.deque.__getattribute__", by rw [typeLookup_type, builtinLookup_eq_fast]; kernel_rfl, by decide +kernel⟩, by rw [typeLookup_type, builtinLookup_eq_fast]; kernel_rfl⟩
theorem slot_dq_popleft : Slot "collections.deque" "popleft" "collections.deque.popleft" :=
  .of (owner := "collections.deque") (n := "popleft") (by rw [typeLookup_type, builtinLookup_eq_fast]; kernel_rfl) (by decide +kernel) (by decide +kernel) (by decide +kernel)
    (by first | exact .inl (by decide +kernel) | exact .inr (by decide +kernel)) (by rw [isSubtype_type]; kernel_rfl)
theorem slot_dq_appendleft : Slot "collections.deque" "appendleft" "collections.deque.appendleft" :=
  .of (owner := "collections.deque") (n := "appendleft") (by rw [typeLookup_type, builtinLookup_eq_fast]; kernel_rfl) (by decide +kernel) (by decide +kernel) (by decide +kernel)
    (by first | exact .inl (by decide +kernel) | exact .inr (by decide +kernel)) (by rw [isSubtype_type]; kernel_rfl)
theorem type_dq_popleft : typeOf (.builtin "collections.deque.popleft") = pure (.type "method_descriptor") := by show builtinType _ = _; rw [builtinType_eq_fast]; kernel_rfl
theorem type_dq_appendleft : typeOf (.builtin "collections.deque.appendleft") = pure (.type "method_descriptor") := by show builtinType _ = _; rw [builtinType_eq_fast]; kernel_rfl
theorem entry_dq_popleft : entryFor table "collections.deque.popleft" = some Builtin.«collections.deque.popleft» := entryFor_of_fast (by kernel_rfl)
theorem entry_dq_appendleft : entryFor table "collections.deque.appendleft" = some Builtin.«collections.deque.appendleft» := entryFor_of_fast (by kernel_rfl)
theorem args_dq_popleft (a : Value) : argsOk "collections.deque.popleft" ⟨[a], []⟩ := by unfold argsOk; kernel_rfl
theorem args_dq_appendleft (a b : Value) : argsOk "collections.deque.appendleft" ⟨[a, b], []⟩ := by unfold argsOk; kernel_rfl
section
variable {prog : Program} {w : World} {A : Around} {E : Value → Shared → Prop} {s : Shared} {D : Addr} {st : Int} {vs us : List Value}
theorem dq_arr (st : Int) (vs : List Value) : (#[Value.none, rawInt st] ++ vs.toArray : Array Value).extract 2 (#[Value.none, rawInt st] ++ vs.toArray : Array Value).size = vs.toArray := by
  apply Array.ext'
  simp
theorem dq_state {Q : Int → Shared → Prop} (ho : s.heap.get? D = some (dqObj st vs)) (h : Q st s) : wpAny (model prog w) A (Builtin.Deque.state (.ref D)) Q E s := by
  unfold Builtin.Deque.state field
  refine wpAny_bind (wpAny_bind (dq_load ho ?_))
  rw [show (#[Value.none, rawInt st] ++ vs.toArray : Array Value)[1]? = some (rawInt st) by rw [Array.getElem?_append_left (Nat.lt_succ_self 1)]; rfl]
  exact wpAny_pure (wpAny_pure h)
theorem dq_items {Q : Array Value → Shared → Prop} (ho : s.heap.get? D = some (dqObj st vs)) (h : Q vs.toArray s) : wpAny (model prog w) A (Builtin.Deque.items (.ref D)) Q E s := by
  unfold Builtin.Deque.items
  refine wpAny_bind (dq_load ho (wpAny_pure ?_))
  rw [dq_arr]; exact h
theorem dq_change {f : Array Value → Array Value} {Q : Unit → Shared → Prop} (ho : s.heap.get? D = some (dqObj st vs)) (hf : f vs.toArray = us.toArray) (hz : us.length ≤ sizeLine) (h : ∀ h', Heap.SameBut D s.heap h' → h'.get? D = some (dqObj (st + 1) us) → Q () { s with heap := h' }) : wpAny (model prog w) A (Builtin.Deque.change (.ref D) f) Q E s := by
  unfold Builtin.Deque.change
  refine wpAny_bind (dq_state ho ?_)
  have hg : (#[Value.none, rawInt st] ++ vs.toArray : Array Value).getD 0 .none = .none := by simp
  refine wpAny_updateFields ho rfl (h _ (Heap.SameBut.update ..) ?_) (by rw [dq_arr, hf]; simp; omega)
  have e : Obj.mapFields (fun vs => #[vs.getD 0 .none, rawInt (if true = true then st + 1 else st)] ++ f (vs.extract 2 vs.size)) (dqObj st vs) = dqObj (st + 1) us := by
    unfold dqObj
    show (⟨_, _, .fields (#[_, _] ++ f _), _⟩ : Obj) = _
    rw [dq_arr, hf, hg]; rfl
  rw [Heap.get?_update_self _ ho (by rw [e]; rfl), e]
theorem dq_popleft {x : Value} {Q : Value → Shared → Prop} (ho : s.heap.get? D = some (dqObj st (x :: vs))) (hz : vs.length ≤ sizeLine) (h : ∀ h', Heap.SameBut D s.heap h' → h'.get? D = some (dqObj (st + 1) vs) → Q x { s with heap := h' }) : wpAny (model prog w) A (call (.builtin "collections.deque.popleft") [.ref D]) Q E s := by
  refine wpAny_call_entry slot_dq_popleft ⟨_, ho, rfl⟩ entry_dq_popleft ?_ (args_dq_popleft _)
  unfold Builtin.«collections.deque.popleft»
  refine wpAny_bind (wpAny_pure (wpAny_bind (dq_items ho ?_)))
  show wpAny _ _ (Builtin.Deque.change (.ref D) (·.eraseIdxIfInBounds 0) >>= fun _ => ret x) _ _ s
  refine wpAny_bind (dq_change ho (us := vs) (by apply Array.ext'; simp [Array.eraseIdxIfInBounds]) hz fun h' sb e => wpAny_pure ⟨x, rfl, h h' sb e⟩)
theorem dq_appendleft {x : Value} {Q : Value → Shared → Prop} (ho : s.heap.get? D = some (dqObj st vs)) (hz : vs.length + 1 ≤ sizeLine) (h : ∀ h', Heap.SameBut D s.heap h' → h'.get? D = some (dqObj (st + 1) (x :: vs)) → Q .none { s with heap := h' }) : wpAny (model prog w) A (call (.builtin "collections.deque.appendleft") [.ref D, x]) Q E s := by
  refine wpAny_call_entry slot_dq_appendleft ⟨_, ho, rfl⟩ entry_dq_appendleft ?_ (args_dq_appendleft _ _)
  unfold Builtin.«collections.deque.appendleft»
  refine wpAny_bind (wpAny_pure (wpAny_bind ?_))
  show wpAny _ _ (Builtin.Deque.pushLeft (.ref D) x) _ _ s
  unfold Builtin.Deque.pushLeft
  refine wpAny_bind (dq_change ho (us := x :: vs) (by apply Array.ext'; simp) hz fun h' sb e => ?_)
  unfold Builtin.Deque.maxlen field
  refine wpAny_bind (wpAny_bind (wpAny_bind (dq_load (s := { s with heap := h' }) e ?_)))
  rw [show (#[Value.none, rawInt (st + 1)] ++ (x :: vs).toArray : Array Value)[0]? = some .none by rw [Array.getElem?_append_left (Nat.succ_pos 1)]; rfl]
  exact wpAny_pure (wpAny_pure (wpAny_pure (wpAny_pure ⟨.none, rfl, h h' sb e⟩)))
end
section
variable {c : Fc} {V V1 V2 V' : View} {p q r : PV} {P : List Prop} {b : Bool}
theorem Inv.setDq {s : Shared} {k a : Nat} {st st' : Int} {vs us : List Value} {xs : List PV} {h' : Heap} (tk : Nat) (ok : c.Ok) (I : Inv c V s) (hr : c.ρ[k]? = some (a, a)) (ea : s.heap.get? a = some (dqObj st vs)) (sb : Heap.SameBut a s.heap h') (ea' : h'.get? a = some (dqObj st' us)) (i : IsL c.T c.ρ s.heap xs us) :
    Inv c { V with objs := V.objs.set k (.dq xs) } { s with heap := h', toks := tk } ∧ St c.N c.muts s { s with heap := h', toks := tk } := by
  have dT : a ∈ c.T := ok.fx.mem a (muts_at hr)
  have kT : Keep c.N c.T s.heap h' := .sameBut sb ea' dT
  have kd : Keep c.N [a] s.heap h' := .sameBut sb ea' (.head _)
  refine ⟨⟨I.rep.change ok.fx hr sb ⟨a, st', us, hr, ea', i.keep kT⟩, I.base.keep (T := [a]) ok.lowK (fun b hb => ?_) ok.lo kd, fun b hb => let ⟨o, e⟩ := I.live b hb; kd.there b o e, I.frs.one kd (.inl ⟨_, ea, show Value.type "collections.deque" ≠ Value.type "frame" by decide⟩)⟩, kd.sub fun b hb => ?_, .refl _, rfl⟩
  · rcases List.mem_singleton.mp hb with rfl; exact ok.fx.low _ dT
  · rcases List.mem_singleton.mp hb with rfl; exact muts_at hr
noncomputable def dmP (a : Str) (xs ps : List PV) : LmP :=
  if a = "appendleft" then (one ps).bind fun p => some (.v .none, p :: xs, [Ln xs])
  else if a = "popleft" then if ps.isEmpty then lmPop xs else none
  else none
noncomputable def dmId (a : Str) : String := if a = "appendleft" then "collections.deque.appendleft" else "collections.deque.popleft"
theorem dm_get {a : Str} {D : Nat} {st : Int} {vs : List Value} {s : Shared} {xs xs' ps : List PV} {M : Model} {A : Around} {E : Value → Shared → Prop} {pl : Sem Bool} {Q : Value × List Value → Shared → Prop} (e : dmP a xs ps = some (r, xs', P)) (ea : s.heap.get? D = some (dqObj st vs)) (h : Q (.builtin (dmId a), [.ref D]) s) : wpAny M A (getMethod (.ref D) a pl) Q E s := by
  unfold dmP at e
  unfold dmId at h
  by_cases g : a = "appendleft"
  · subst g
    exact getMethod_builtin ⟨_, ea, rfl⟩ plain_dq slot_dq_appendleft type_dq_appendleft (fun a e => by cases e; exact ⟨_, ea, rfl⟩) h
  rw [if_neg g] at e h
  obtain ⟨g, _⟩ := oi e
  subst g
  exact getMethod_builtin ⟨_, ea, rfl⟩ plain_dq slot_dq_popleft type_dq_popleft (fun a e => by cases e; exact ⟨_, ea, rfl⟩) h
theorem dm_keep (K : Frag) (a : Str) : keepOk K (.builtin (dmId a)) = true := rfl
theorem dm_call {a : Str} {D k : Nat} {st : Int} {vs : List Value} {s : Shared} {xs xs' ps : List PV} {us : List Value} {Q E : Value → Shared → Prop} (ok : c.Ok) (I : Inv c V s) (hr : c.ρ[k]? = some (D, D)) (e : dmP a xs ps = some (r, xs', P)) (hP : AllP P) (ea : s.heap.get? D = some (dqObj st vs)) (i : IsL c.T c.ρ s.heap xs vs)
    (ia : IsL c.T c.ρ s.heap ps us) (h : ∀ s' x, Inv c { V with objs := V.objs.set k (.dq xs') } s' → St c.N c.muts s s' → Is c.T c.ρ s.heap r x → Q x s') : wpAny c.M c.A (call (.builtin (dmId a)) (.ref D :: us)) Q E s := by
  unfold dmId
  unfold dmP at e
  by_cases g : a = "appendleft"
  · rw [if_pos g] at e ⊢
    obtain ⟨p, e1, e⟩ := ob e
    have e1 := one_is e1
    subst e1
    cases e
    cases ia with | cons ix ir =>
    cases ir
    have hz : xs.length ≤ 1000000 := hP.1
    rw [i.length] at hz
    refine dq_appendleft ea (by rw [sizeLine_eq]; omega) fun h' sb ea' => ?_
    obtain ⟨I', st⟩ := I.setDq (xs := _ :: xs) s.toks ok hr ea sb ea' (.cons ix i)
    exact h _ _ I' st (.v _)
  rw [if_neg g] at e ⊢
  obtain ⟨g, e⟩ := oi e
  obtain ⟨hp, e⟩ := oi e
  have hp := List.isEmpty_iff.mp hp
  subst hp
  cases ia
  cases xs with
  | nil => exact no e
  | cons x ys =>
    cases e
    have hz : (r :: xs').length ≤ 1000000 := hP.1
    rw [i.length] at hz
    cases i with
    | cons ix ir =>
      refine dq_popleft ea (by rw [sizeLine_eq]; exact Nat.le_trans (Nat.le_trans (Nat.le_succ _) hz) (by decide)) fun h' sb ea' => ?_
      obtain ⟨I', st⟩ := I.setDq (xs := xs') s.toks ok hr ea sb ea' ir
      exact h _ _ I' st ix
theorem ev_dmeth {b : Expr} {n : Str} {apos pos : Pos} {es : List Expr} {xs0 xs xs' ps : List PV} {k : Nat} (ok : c.Ok) (hb : attributeBase b n c.env (eval b c.env) = eval b c.env) (hy : EvOk c b V (.o k) V1) (ho1 : V1.objs[k]? = some (.dq xs0)) (hl : (apos.endLine == pos.line) = true) (hs : es.all noStar = true) (h30 : es.length < 30)
    (ha : ArgsOk c es V1 ps V2) (ho : V2.objs[k]? = some (.dq xs)) (e : dmP n xs ps = some (r, xs', P)) (hP : AllP P) : EvOk c (.Call (.Attribute b n apos) es [] pos) V r { V2 with objs := V2.objs.set k (.dq xs') } := by
  intro s Q E I h
  rw [mc_eq hb hl hs h30]
  refine wpAny_bind (hy s _ E I fun s1 v I1 t1 i1 => wpAny_bind (wpAny_standAt (wpAny_bind (wpAny_holding ?_))))
  obtain ⟨D, m, rfl, e1⟩ := i1.io
  obtain ⟨D', st, vs, e2, ea, im⟩ := I1.rep.objs k _ ho1
  rw [e1] at e2; cases e2
  refine dm_get e ea ?_
  refine callWith_ok (dm_keep c.K n) hs ha I1 fun s2 us I2 t2 i2 => ?_
  obtain ⟨D', st2, vs2, e2, ea2, im2⟩ := I2.rep.objs k _ ho
  rw [e1] at e2; cases e2
  exact dm_call ok I2 e1 e hP ea2 im2 i2 fun s3 x I3 t3 ix => h s3 x I3 ((t1.trans t2).trans t3) (ix.st ok t3)
end
end D2
section M6
structure Cfg where
  scope : Scope
  nt : List Addr
  glob : List (Str × Value)
  attr : List (Addr × List Str)
  seta : List (Addr × List Str)
  meth : List (Addr × List (Str × Addr))
  alis : List (Addr × List (Str × Str))
  call : Value → List PV → List PO → Option (PV × List Prop)
  ecall : Value → List PV → List PO → Option (PV × List PO × List Prop)
structure CfgOk (c : Fc) (g : Cfg) : Prop where
  scope : c.env.scope = g.scope
  units : c.A.units + 64 < cLine
  handled : c.A.handled = none
  nt : NtOk c.K g.nt
  glob : ∀ x v, g.glob.lookup x = some v → globIs c.K x v = true
  attr : ∀ C ns, g.attr.lookup C = some ns → ∀ n, ns.contains n = true → attrOk c.K C n = true
  seta : ∀ C ns, g.seta.lookup C = some ns → ∀ n, ns.contains n = true → setOk c.K C n = true
  meth : ∀ C ms, g.meth.lookup C = some ms → ∀ n f, ms.lookup n = some f → methOk c.K C n f = true ∧ keepOk c.K (.ref f) = true
  alis : ∀ C ns, g.alis.lookup C = some ns → ∀ n al, ns.lookup n = some al → ∃ pr f, propOk c.K C n pr f = true ∧ ∀ k objs att p, objs[k]? = some (.inst C att) → att.lookup al = some p → handedP p = true → CodeOk { c with A := c.A.in1 } (.ref f) [.o k] objs p objs
  call : ∀ f ps objs r P, g.call f ps objs = some (r, P) → keepOk c.K f = true ∧ (AllP P → CallOk c f ps objs r objs)
  ecall : ∀ f ps objs r objs' P, g.ecall f ps objs = some (r, objs', P) → keepOk c.K f = true ∧ (AllP P → CallOk c f ps objs r objs')
set_option backward.match.sparseCases false in
noncomputable def isO : PV → Option Nat
  | .o k => some k
  | _ => none
theorem isO_is {p : PV} {k : Nat} (h : isO p = some k) : p = .o k := by cases p <;> first | exact no h | (cases h; rfl)
set_option backward.match.sparseCases false in
noncomputable def isI : PV → Option Int
  | .i k => some k
  | _ => none
theorem isI_is {p : PV} {k : Int} (h : isI p = some k) : p = .i k := by cases p <;> first | exact no h | (cases h; rfl)
set_option backward.match.sparseCases false in
noncomputable def isV : PV → Option Value
  | .v k => some k
  | _ => none
theorem isV_is {p : PV} {k : Value} (h : isV p = some k) : p = .v k := by cases p <;> first | exact no h | (cases h; rfl)
set_option backward.match.sparseCases false in
noncomputable def isT : PV → Option (List PV)
  | .t k => some k
  | _ => none
theorem isT_is {p : PV} {k : List PV} (h : isT p = some k) : p = .t k := by cases p <;> first | exact no h | (cases h; rfl)
set_option backward.match.sparseCases false in
noncomputable def instO : PO → Option (Addr × List (Str × PV))
  | .inst C att => some (C, att)
  | _ => none
noncomputable def instOf (objs : List PO) (k : Nat) : Option (Addr × List (Str × PV)) := objs[k]?.bind instO
theorem instOf_is {objs : List PO} {k : Nat} {C : Addr} {att : List (Str × PV)} (h : instOf objs k = some (C, att)) : objs[k]? = some (.inst C att) := by
  obtain ⟨po, e, h⟩ := ob h
  rw [e]
  cases po <;> first | exact no h | (cases h; rfl)
set_option backward.match.sparseCases false in
noncomputable def listO : PO → Option (List PV)
  | .list xs => some xs
  | _ => none
noncomputable def listOfO (objs : List PO) (k : Nat) : Option (List PV) := objs[k]?.bind listO
theorem listOfO_is {objs : List PO} {k : Nat} {xs : List PV} (h : listOfO objs k = some xs) : objs[k]? = some (.list xs) := by
  obtain ⟨po, e, h⟩ := ob h
  rw [e]
  cases po <;> first | exact no h | (cases h; rfl)
set_option backward.match.sparseCases false in
noncomputable def peKind (g : Cfg) (x : Str) (V : View) : NameKind → VP
  | .local => (V.loc.lookup x).map fun p => (p, [])
  | .globalImplicit => (g.glob.lookup x).map fun v => (.v v, [])
  | _ => none
noncomputable def peName (g : Cfg) (x : Str) (V : View) : VP := if x == ("__debug__" : Str) then none else (g.scope.names.lookup x).bind (peKind g x V)
set_option backward.match.sparseCases false in
noncomputable def peConst (k : Const) : VP := match k with
  | .none => some (.v .none, [])
  | .bool b => some (.v (.bool b), [])
  | .int i => some (.i i, [])
  | .str s => some (.s s, [])
  | _ => none
set_option backward.match.sparseCases false in
noncomputable def nameIn : Expr → Option (Str × Pos)
  | .Name x p => some (x, p)
  | _ => none
theorem nameIn_is {e : Expr} {x : Str} {p : Pos} (h : nameIn e = some (x, p)) : e = .Name x p := by
  cases e with
  | Name y q => cases h; rfl
  | _ => exact no h
noncomputable def handO (p : PV) : Option PV := if handedP p then some p else none
theorem handO_is {p q : PV} (h : handO p = some q) : q = p ∧ handedP p = true := by obtain ⟨h1, h2⟩ := oi h; cases h2; exact ⟨rfl, h1⟩
noncomputable def peAlias (g : Cfg) (C : Addr) (att : List (Str × PV)) (a : Str) : Option PV := (g.alis.lookup C).bind fun as => (as.lookup a).bind fun al => (att.lookup al).bind handO
set_option backward.match.sparseCases false in
noncomputable def peAttrOf (g : Cfg) (a : Str) (C : Addr) (att : List (Str × PV)) (ns : List Str) : Bool → Option PV
  | true => (att.lookup a).bind handO
  | false => peAlias g C att a
noncomputable def peAttr (g : Cfg) (objs : List PO) (a : Str) (k : Nat) : Option PV := (instOf objs k).bind fun z => (g.attr.lookup z.1).bind fun ns => peAttrOf g a z.1 z.2 ns (ns.contains a)
set_option backward.match.sparseCases false in
noncomputable def unlessIn {α β : Type} (o : Option α) (x : Option β) : Option β := match o with
  | none => x
  | some _ => none
theorem unlessIn_is {α β : Type} {o : Option α} {x : Option β} {b : β} (h : unlessIn o x = some b) : o = none ∧ x = some b := by
  cases o with
  | none => exact ⟨rfl, h⟩
  | some _ => exact no h
noncomputable def methOf (g : Cfg) (objs : List PO) (a : Str) (k : Nat) : Option Addr := (instOf objs k).bind fun z => (g.meth.lookup z.1).bind fun ms => unlessIn (z.2.lookup a) (ms.lookup a)
noncomputable def callLine (apos pos : Pos) (es : List Expr) : Bool := es.all noStar && (apos.endLine == pos.line) && decide (es.length < 30)
set_option backward.match.sparseCases false in
noncomputable def iteS (b : Bool) (P Q : List Prop) : PV → PV → VP
  | .s u, .s v => some (.s (if b then u else v), [b = true → AllP P, b = false → AllP Q])
  | .i u, .i v => some (.i (if b then u else v), [b = true → AllP P, b = false → AllP Q])
  | _, _ => none
set_option backward.match.sparseCases false in
noncomputable def iteB (b : Bool) (x y : VP) : VP := match b with
  | true => x
  | false => y
set_option backward.match.sparseCases false in
noncomputable def iteO (x y : VP) : VP := match x with
  | some z => some z
  | none => y
noncomputable def iteP (b : Bool) (x y : VP) : VP := iteO (x.bind fun z => y.bind fun z' => iteS b z.2 z'.2 z.1 z'.1) (iteB b x y)
noncomputable def ptObj (z : PV × List Prop) (po : PO) : BP := (objTruth po).map fun u => (u.1, z.2 ++ u.2)
set_option backward.match.sparseCases false in
noncomputable def ptVal1 (objs : List PO) (z : PV × List Prop) : Option Nat → BP
  | some k => objs[k]?.bind (ptObj z)
  | none => (truthP z.1).map fun u => (u.1, z.2 ++ u.2)
noncomputable def ptVal (objs : List PO) (z : PV × List Prop) : BP := ptVal1 objs z (isO z.1)
theorem iteO_is {x y : VP} {p : PV} {P : List Prop} (h : iteO x y = some (p, P)) : x = some (p, P) ∨ y = some (p, P) := by
  cases x with
  | some z => exact .inl h
  | none => exact .inr h
set_option backward.match.sparseCases false in
noncomputable def retOf : Stmt → Option (Expr × Pos)
  | .Return (some e) p => some (e, p)
  | _ => none
theorem retOf_is {st : Stmt} {e : Expr} {p : Pos} (h : retOf st = some (e, p)) : st = .Return (some e) p := by
  cases st with
  | Return e q => cases e with
    | some e => cases h; rfl
    | none => exact no h
  | _ => exact no h
set_option backward.match.sparseCases false in
noncomputable def attOf : Expr → Option (Expr × Str × Pos)
  | .Attribute b a p => some (b, a, p)
  | _ => none
theorem attOf_is {e b : Expr} {a : Str} {p : Pos} (h : attOf e = some (b, a, p)) : e = .Attribute b a p := by
  cases e with
  | Attribute => cases h; rfl
  | _ => exact no h
noncomputable abbrev LP := Option (List PV × List Prop)
noncomputable abbrev OP := Option (Option Int × List Prop)
noncomputable def peAttrE (g : Cfg) (b : Expr) (a : Str) (V : View) : VP := (nameIn b).bind fun y => (peName g y.1 V).bind fun z => (isO z.1).bind fun k => (peAttr g V.objs a k).map fun p => (p, z.2)
noncomputable def peCmp (g : Cfg) (op : CmpOp) (z z' : PV × List Prop) : VP := (cmpG g.nt op z.1 z'.1).map fun u => (.v (.bool u.1), z.2 ++ (z'.2 ++ u.2))
noncomputable def ptCmp (g : Cfg) (op : CmpOp) (z z' : PV × List Prop) : BP := (cmpG g.nt op z.1 z'.1).map fun u => (u.1, z.2 ++ (z'.2 ++ u.2))
noncomputable def cmpE {α : Type} (ops : List CmpOp) (rs : List Expr) (z : VP) (F : Expr → VP) (k : CmpOp → PV × List Prop → PV × List Prop → Option α) : Option α := two (one ops) (one rs) fun op r => if behindInMarks op r then none else two z (F r) (k op)
noncomputable def peBin (op : Operator) (z z' : PV × List Prop) : VP := (binP op z.1 z'.1).map fun u => (u.1, z.2 ++ (z'.2 ++ u.2))
noncomputable def peNeg (z : PV × List Prop) : VP := (isI z.1).bind fun i => some (.i (-i), z.2)
set_option backward.match.sparseCases false in
noncomputable def peUn (op : UnaryOp) (z : VP) : VP := match op with
  | .USub => z.bind peNeg
  | _ => none
noncomputable def peCallN (g : Cfg) (x : Str) (es : List Expr) (V : View) (as : LP) : VP := if es.all noStar then two (peName g x V) as fun z z' => (isV z.1).bind fun fv => (g.call fv z'.1 V.objs).map fun u => (u.1, z.2 ++ (z'.2 ++ u.2)) else none
noncomputable def peCallM (g : Cfg) (b : Expr) (a : Str) (apos pos : Pos) (es : List Expr) (V : View) (as : LP) : VP := (nameIn b).bind fun y => if callLine apos pos es then two (peName g y.1 V) as fun z z' => (isO z.1).bind fun k => (methOf g V.objs a k).bind fun fa => (g.call (.ref fa) (.o k :: z'.1) V.objs).map fun u => (u.1, z.2 ++ (z'.2 ++ u.2)) else none
inductive Cal where
  | name (x : Str) (px : Pos)
  | attr (b : Expr) (a : Str) (apos : Pos)
set_option backward.match.sparseCases false in
noncomputable def calOf : Expr → Option Cal
  | .Name x px => some (.name x px)
  | .Attribute b a apos => some (.attr b a apos)
  | _ => none
set_option backward.match.sparseCases false in
noncomputable def Cal.e : Cal → Expr
  | .name x px => .Name x px
  | .attr b a apos => .Attribute b a apos
theorem calOf_is {e : Expr} {k : Cal} (h : calOf e = some k) : e = k.e := by
  cases e with
  | Name x px => cases h; rfl
  | Attribute b a apos => cases h; rfl
  | _ => exact no h
set_option backward.match.sparseCases false in
noncomputable def peCal (g : Cfg) (pos : Pos) (es : List Expr) (V : View) (as : LP) : Cal → VP
  | .name x _ => peCallN g x es V as
  | .attr b a apos => peCallM g b a apos pos es V as
noncomputable def peCall (g : Cfg) (f : Expr) (es : List Expr) (kws : List Keyword) (pos : Pos) (V : View) (as : LP) : VP := if kws.isEmpty then (calOf f).bind (peCal g pos es V as) else none
set_option backward.match.sparseCases false in
noncomputable def sliceOf : Expr → Option (Option Expr × Option Expr × Option Expr)
  | .Slice lo up st _ => some (lo, up, st)
  | _ => none
theorem sliceOf_is {e : Expr} {lo up st : Option Expr} (h : sliceOf e = some (lo, up, st)) : ∃ p, e = .Slice lo up st p := by
  cases e with
  | Slice a b c p => cases h; exact ⟨p, rfl⟩
  | _ => exact no h
noncomputable def peSl (z : PV × List Prop) (l u : Option Int × List Prop) : VP := (sliceP z.1 l.1 u.1).map fun w => (w.1, z.2 ++ (l.2 ++ (u.2 ++ w.2)))
noncomputable def peRev (lo up : Option Expr) (z y : PV × List Prop) : VP := if lo.isNone && up.isNone then (isI y.1).bind fun i => if i == -1 then (revP z.1).map fun w => (w.1, z.2 ++ (y.2 ++ w.2)) else none else none
set_option backward.match.sparseCases false in
noncomputable def peIx1 (objs : List PO) (z y : PV × List Prop) (i : Int) : Option Nat → VP
  | some k => (listOfO objs k).bind fun xs => (idxO xs i).map fun w => (w.1, z.2 ++ (y.2 ++ w.2))
  | none => (idxP z.1 i).map fun w => (w.1, z.2 ++ (y.2 ++ w.2))
noncomputable def peIx (objs : List PO) (z y : PV × List Prop) : VP := (isI y.1).bind fun i => peIx1 objs z y i (isO z.1)
set_option backward.match.sparseCases false in
noncomputable def peSt (z : VP) (lo up : Option Expr) (F : Expr → VP) (O : Option Expr → OP) : Option Expr → VP
  | none => two z (O lo) fun z l => (O up).bind (peSl z l)
  | some e => two z (F e) (peRev lo up)
set_option backward.match.sparseCases false in
noncomputable def peSub1 (objs : List PO) (z : VP) (ix : Expr) (F : Expr → VP) (O : Option Expr → OP) : Option (Option Expr × Option Expr × Option Expr) → VP
  | some s => peSt z s.1 s.2.1 F O s.2.2
  | none => if plainIdx ix then two z (F ix) (peIx objs) else none
noncomputable def peMany (k : List PV → PV) (z : LP) : VP := z.bind fun z => if decide (z.1.length ≤ 1000) then some (k z.1, z.2) else none
noncomputable def peIf (z : BP) (x y : VP) : VP := z.bind fun z => (iteP z.1 x y).map fun w => (w.1, z.2 ++ w.2)
set_option backward.match.sparseCases false in
noncomputable def peB (g : Cfg) (F : Expr → VP) (A : List Expr → LP) (O : Option Expr → OP) (T : Expr → BP) (e : Expr) (V : View) : VP := match e with
  | .Name x _ => peName g x V
  | .Constant k _ _ => peConst k
  | .Attribute b a _ => peAttrE g b a V
  | .Compare l ops rs _ => cmpE ops rs (F l) F (peCmp g)
  | .BinOp l op r _ => two (F l) (F r) (peBin op)
  | .UnaryOp op x _ => peUn op (F x)
  | .Call f es kws pos => peCall g f es kws pos V (A es)
  | .Subscript b ix _ => peSub1 V.objs (F b) ix F O (sliceOf ix)
  | .Tuple es _ _ => peMany .t (A es)
  | .List es _ => peMany .l (A es)
  | .IfExp t a b _ => peIf (T t) (F a) (F b)
  | _ => none
set_option backward.match.sparseCases false in
noncomputable def pasB (F : Expr → VP) (A : List Expr → LP) : List Expr → LP
  | [] => some ([], [])
  | e :: r => if noStar e then two (F e) (A r) fun z z' => some (z.1 :: z'.1, z.2 ++ z'.2) else none
set_option backward.match.sparseCases false in
noncomputable def popB (F : Expr → VP) : Option Expr → OP
  | none => some (none, [])
  | some e => (F e).bind fun z => (isI z.1).bind fun i => some (some i, z.2)
set_option backward.match.sparseCases false in
noncomputable def ptUn (op : UnaryOp) (z : BP) : BP := match op with
  | .Not => z.map fun z => (!z.1, z.2)
  | _ => none
set_option backward.match.sparseCases false in
noncomputable def ptB (g : Cfg) (F : Expr → VP) (T : Expr → BP) (L : BoolOp → List Expr → BP) (V : View) (e : Expr) : BP := match e with
  | .Compare l ops rs _ => cmpE ops rs (F l) F (ptCmp g)
  | .UnaryOp op x _ => ptUn op (T x)
  | .BoolOp op es _ => L op es
  | .Name x p => (F (.Name x p)).bind (ptVal V.objs)
  | .Attribute b a p => (F (.Attribute b a p)).bind (ptVal V.objs)
  | .Call f es ks p => (F (.Call f es ks p)).bind (ptVal V.objs)
  | .Constant k u p => (F (.Constant k u p)).bind (ptVal V.objs)
  | .Subscript b i p => (F (.Subscript b i p)).bind (ptVal V.objs)
  | _ => none
set_option backward.match.sparseCases false in
noncomputable def palA (z : Bool × List Prop) : BP → BP
  | some z' => some (z.1 && z'.1, z.2 ++ z'.2)
  | none => some (false, z.2 ++ [z.1 = false])
set_option backward.match.sparseCases false in
noncomputable def palO (z : Bool × List Prop) : BP → BP
  | some z' => some (z.1 || z'.1, z.2 ++ z'.2)
  | none => some (true, z.2 ++ [z.1 = true])
set_option backward.match.sparseCases false in
noncomputable def palB (T : Expr → BP) (L : BoolOp → List Expr → BP) : BoolOp → List Expr → BP
  | .And, [] => some (true, [])
  | .And, e :: r => (T e).bind fun z => palA z (L .And r)
  | .Or, [] => some (false, [])
  | .Or, e :: r => (T e).bind fun z => palO z (L .Or r)
set_option backward.match.sparseCases false in
mutual
noncomputable def pe (g : Cfg) : Nat → Expr → View → VP
  | 0, _, _ => none
  | n + 1, e, V => peB g (fun e => pe g n e V) (fun es => pas g n es V) (fun o => pop g n o V) (fun t => pt g n t V) e V
noncomputable def pas (g : Cfg) : Nat → List Expr → View → LP
  | 0, _, _ => none
  | n + 1, es, V => pasB (fun e => pe g n e V) (fun es => pas g n es V) es
noncomputable def pop (g : Cfg) : Nat → Option Expr → View → OP
  | 0, _, _ => none
  | n + 1, e, V => popB (fun e => pe g n e V) e
noncomputable def pt (g : Cfg) : Nat → Expr → View → BP
  | 0, _, _ => none
  | n + 1, e, V => ptB g (fun e => pe g n e V) (fun e => pt g n e V) (fun op es => pal g n op es V) V e
noncomputable def pal (g : Cfg) : Nat → BoolOp → List Expr → View → BP
  | 0, _, _, _ => none
  | n + 1, op, es, V => palB (fun e => pt g n e V) (fun op es => pal g n op es V) op es
end
section
variable {c : Fc} {g : Cfg} {V : View}
theorem kind_of (gk : CfgOk c g) (x : Str) : c.env.kindOf x = g.scope.names.lookup x := by unfold Env.kindOf; rw [gk.scope]
theorem peName_sound (ok : c.Ok) (gk : CfgOk c g) {x : Str} {pos : Pos} {p : PV} {P : List Prop} (h : peName g x V = some (p, P)) : EvOk c (.Name x pos) V p V := by
  obtain ⟨hd, h⟩ := oe h
  obtain ⟨k, hl, h⟩ := ob h
  have hd : (x == ("__debug__" : Str)) = false := Bool.eq_false_iff.mpr hd
  cases k with
  | «local» => obtain ⟨q, e1, e2⟩ := map_some h; cases e2; exact ev_local ok ((kind_of gk x).trans hl) hd e1
  | globalImplicit => obtain ⟨q, e1, e2⟩ := map_some h; cases e2; exact ev_glob ok ((kind_of gk x).trans hl) hd (gk.glob _ _ e1)
  | _ => exact no h
theorem peConst_sound {k : Const} {u : Nat} {pos : Pos} {p : PV} {P : List Prop} (h : peConst k = some (p, P)) : EvOk c (.Constant k u pos) V p V := by
  cases k with
  | none => cases h; exact ev_none
  | bool b => cases h; exact ev_bool
  | int i => cases h; exact ev_int
  | str s => cases h; exact ev_str
  | _ => exact no h
theorem peAttr_sound (ok : c.Ok) (gk : CfgOk c g) {y a : Str} {py pos : Pos} {k : Nat} {p : PV} (hy : EvOk c (.Name y py) V (.o k) V) (h : peAttr g V.objs a k = some p) : EvOk c (.Attribute (.Name y py) a pos) V p V := by
  obtain ⟨z, hz, h⟩ := ob h
  obtain ⟨ns, hns, h⟩ := ob h
  have ho := instOf_is hz
  cases hc : ns.contains a with
  | true =>
    rw [hc] at h
    obtain ⟨q, hq, h⟩ := ob h
    obtain ⟨rfl, hh⟩ := handO_is h
    exact ev_attr ok hy ho (gk.attr _ _ hns _ hc) hq hh
  | false =>
    rw [hc] at h
    obtain ⟨as, has, h⟩ := ob h
    obtain ⟨al, hal, h⟩ := ob h
    obtain ⟨q, hq, h⟩ := ob h
    obtain ⟨rfl, hh⟩ := handO_is h
    obtain ⟨pr, f, hp, hc⟩ := gk.alis _ _ has _ _ hal
    exact ev_prop ok hy ho hp hh (hc k V.objs _ _ ho hq hh)
theorem methOf_is {objs : List PO} {a : Str} {k : Nat} {f : Addr} (gk : CfgOk c g) (h : methOf g objs a k = some f) : ∃ C att, objs[k]? = some (.inst C att) ∧ att.lookup a = none ∧ methOk c.K C a f = true ∧ keepOk c.K (.ref f) = true := by
  obtain ⟨z, hz, h⟩ := ob h
  obtain ⟨ms, hms, h⟩ := ob h
  obtain ⟨hn, h⟩ := unlessIn_is h
  exact ⟨z.1, z.2, instOf_is hz, hn, gk.meth _ _ hms _ _ h⟩
theorem callLine_is {apos pos : Pos} {es : List Expr} (h : callLine apos pos es = true) : es.all noStar = true ∧ (apos.endLine == pos.line) = true ∧ es.length < 30 := by
  obtain ⟨h12, h3⟩ := Bool.and_eq_true_iff.mp h
  obtain ⟨h1, h2⟩ := Bool.and_eq_true_iff.mp h12
  exact ⟨h1, h2, of_decide_eq_true h3⟩
theorem ev_ifexp {t a b : Expr} {pos : Pos} {x : Bool} {p : PV} (ht : TvOk c t V x V) (h1 : x = true → EvOk c a V p V) (h2 : x = false → EvOk c b V p V) : EvOk c (.IfExp t a b pos) V p V := by
  intro s Q E I k
  refine IfExp_ (ht s _ E I fun s1 I1 t1 => ?_)
  cases x with
  | true => exact h1 rfl s1 Q E I1 fun s2 v I2 t2 i2 => k s2 v I2 (t1.trans t2) i2
  | false => exact h2 rfl s1 Q E I1 fun s2 v I2 t2 i2 => k s2 v I2 (t1.trans t2) i2
theorem iteS_is {b : Bool} {P Q R : List Prop} {x y p : PV} (h : iteS b P Q x y = some (p, R)) (hP : AllP R) : (b = true → p = x ∧ AllP P) ∧ (b = false → p = y ∧ AllP Q) := by
  cases x with
  | s u => cases y with
    | s v => cases h; exact ⟨fun e => ⟨by rw [e]; rfl, hP.1 e⟩, fun e => ⟨by rw [e]; rfl, hP.2.1 e⟩⟩
    | _ => exact no h
  | i u => cases y with
    | i v => cases h; exact ⟨fun e => ⟨by rw [e]; rfl, hP.1 e⟩, fun e => ⟨by rw [e]; rfl, hP.2.1 e⟩⟩
    | _ => exact no h
  | _ => exact no h
theorem iteP_sound {a b : Expr} {x : Bool} {u v : VP} {p : PV} {P : List Prop} (h1 : ∀ q Q, u = some (q, Q) → AllP Q → EvOk c a V q V) (h2 : ∀ q Q, v = some (q, Q) → AllP Q → EvOk c b V q V) (h : iteP x u v = some (p, P)) (hP : AllP P) : (x = true → EvOk c a V p V) ∧ (x = false → EvOk c b V p V) := by
  have key : ∀ o : VP, (o = some (p, P) → (x = true → EvOk c a V p V) ∧ (x = false → EvOk c b V p V)) → iteO o (iteB x u v) = some (p, P) → (x = true → EvOk c a V p V) ∧ (x = false → EvOk c b V p V) := fun o k h => by
    cases o with
    | some z => exact k h
    | none => exact ⟨fun e => by subst e; exact h1 _ _ h hP, fun e => by subst e; exact h2 _ _ h hP⟩
  refine key _ (fun h => ?_) h
  obtain ⟨z, e1, h⟩ := ob h
  obtain ⟨z', e2, h⟩ := ob h
  obtain ⟨k1, k2⟩ := iteS_is h hP
  exact ⟨fun e => by obtain ⟨rfl, q⟩ := k1 e; exact h1 _ _ e1 q, fun e => by obtain ⟨rfl, q⟩ := k2 e; exact h2 _ _ e2 q⟩
set_option backward.match.sparseCases false in
noncomputable def plainTest : Expr → Bool
  | .Name .. => true
  | .Attribute .. => true
  | .Call .. => true
  | .Constant .. => true
  | .Subscript .. => true
  | _ => false
theorem test_of {e : Expr} (hp : plainTest e = true) : ∀ env whole, isTrue e env whole = (do let v ← whole; standAt e.pos; holding [v] (truthy v)) := fun env whole => by cases e <;> first | rfl | exact nof hp
theorem ptVal_sound {e : Expr} {x : VP} {b : Bool} {P : List Prop} (hp : plainTest e = true) (he : ∀ q Q, x = some (q, Q) → AllP Q → EvOk c e V q V) (h : x.bind (ptVal V.objs) = some (b, P)) (hP : AllP P) : TvOk c e V b V := by
  obtain ⟨z, ez, h⟩ := ob h
  cases hk : isO z.1 with
  | some k =>
    unfold ptVal at h
    rw [hk] at h
    obtain ⟨po, ho, h⟩ := ob h
    obtain ⟨u, e1, e2⟩ := map_some h
    cases e2
    rw [AllP.append] at hP
    have := he _ _ ez hP.1
    rw [isO_is hk] at this
    exact tv_obj (test_of hp) this ho e1 hP.2
  | none =>
    unfold ptVal at h
    rw [hk] at h
    obtain ⟨u, e1, e2⟩ := map_some h
    cases e2
    rw [AllP.append] at hP
    exact tv_plain (test_of hp) (he _ _ ez hP.1) e1 hP.2
structure PeOk (c : Fc) (g : Cfg) (V : View) (n : Nat) : Prop where
  e : ∀ e p P, pe g n e V = some (p, P) → AllP P → EvOk c e V p V
  as : ∀ es ps P, pas g n es V = some (ps, P) → AllP P → ArgsOk c es V ps V
  o : ∀ e k P, pop g n e V = some (k, P) → AllP P → PartOk c e V k
  t : ∀ e b P, pt g n e V = some (b, P) → AllP P → TvOk c e V b V
  al : ∀ op es b P, pal g n op es V = some (b, P) → AllP P → AllOk c op es V b V
section
variable {F : Expr → VP} {A : List Expr → LP} {O : Option Expr → OP} {T : Expr → BP} {L : BoolOp → List Expr → BP} {p : PV} {P : List Prop} {pos : Pos}
noncomputable abbrev FOk (c : Fc) (V : View) (F : Expr → VP) : Prop := ∀ e p P, F e = some (p, P) → AllP P → EvOk c e V p V
noncomputable abbrev AOk (c : Fc) (V : View) (A : List Expr → LP) : Prop := ∀ es ps P, A es = some (ps, P) → AllP P → ArgsOk c es V ps V
noncomputable abbrev OOk (c : Fc) (V : View) (O : Option Expr → OP) : Prop := ∀ e k P, O e = some (k, P) → AllP P → PartOk c e V k
noncomputable abbrev TOk (c : Fc) (V : View) (T : Expr → BP) : Prop := ∀ e b P, T e = some (b, P) → AllP P → TvOk c e V b V
noncomputable abbrev BOk (c : Fc) (V : View) (L : BoolOp → List Expr → BP) : Prop := ∀ op es b P, L op es = some (b, P) → AllP P → AllOk c op es V b V
theorem pas_step (ok : c.Ok) (hF : FOk c V F) (hA : AOk c V A) : AOk c V (pasB F A) := fun es ps P h hP => by
  cases es with
  | nil => cases h; exact args_nil
  | cons e r =>
    obtain ⟨hs, h⟩ := oi h
    obtain ⟨z, z', h1, h2, h⟩ := two_is h
    cases h
    rw [AllP.append] at hP
    exact args_cons ok (hF _ _ _ h1 hP.1) (hA _ _ _ h2 hP.2) hs
theorem pop_step (hF : FOk c V F) : OOk c V (popB F) := fun e k P h hP => by
  cases e with
  | none => cases h; exact part_none
  | some e =>
    obtain ⟨z, h1, h⟩ := ob h
    obtain ⟨i, hi, h⟩ := ob h
    cases h
    have := hF _ _ _ h1 hP
    rw [isI_is hi] at this
    exact part_some this
theorem pal_step (hT : TOk c V T) (hL : BOk c V L) : BOk c V (palB T L) := fun op es b P h hP => by
  cases op with
  | And => cases es with
    | nil => cases h; exact all_and_nil
    | cons e r =>
      obtain ⟨z, h1, h⟩ := ob h
      cases h2 : L .And r with
      | some z' =>
        rw [h2] at h
        cases h
        rw [AllP.append] at hP
        exact all_and (hT _ _ _ h1 hP.1) fun _ => hL _ _ _ _ h2 hP.2
      | none =>
        rw [h2] at h
        cases h
        rw [AllP.append] at hP
        have hb := hP.2.1
        rw [show false = (z.1 && true) by rw [hb]; rfl]
        exact all_and (hT _ _ _ h1 hP.1) (fun q => by rw [hb] at q; cases q)
  | Or => cases es with
    | nil => cases h; exact all_or_nil
    | cons e r =>
      obtain ⟨z, h1, h⟩ := ob h
      cases h2 : L .Or r with
      | some z' =>
        rw [h2] at h
        cases h
        rw [AllP.append] at hP
        exact all_or (hT _ _ _ h1 hP.1) fun _ => hL _ _ _ _ h2 hP.2
      | none =>
        rw [h2] at h
        cases h
        rw [AllP.append] at hP
        have hb := hP.2.1
        rw [show true = (z.1 || true) by rw [hb]; rfl]
        exact all_or (hT _ _ _ h1 hP.1) (fun q => by rw [hb] at q; cases q)
theorem cmpE_is {α : Type} {ops : List CmpOp} {rs : List Expr} {z : VP} {k : CmpOp → PV × List Prop → PV × List Prop → Option α} {b : α} (h : cmpE ops rs z F k = some b) : ∃ op r a a', ops = [op] ∧ rs = [r] ∧ behindInMarks op r = false ∧ z = some a ∧ F r = some a' ∧ k op a a' = some b := by
  obtain ⟨op, r, h1, h2, h⟩ := two_is h
  obtain ⟨hm, h⟩ := oe h
  obtain ⟨a, a', h3, h4, h⟩ := two_is h
  exact ⟨op, r, a, a', one_is h1, one_is h2, Bool.eq_false_iff.mpr hm, h3, h4, h⟩
theorem ptCmp_sound (ok : c.Ok) (gk : CfgOk c g) (hF : FOk c V F) {l : Expr} {ops : List CmpOp} {rs : List Expr} {b : Bool} (h : cmpE ops rs (F l) F (ptCmp g) = some (b, P)) (hP : AllP P) : TvOk c (.Compare l ops rs pos) V b V := by
  obtain ⟨op, r, z, z', rfl, rfl, hm, h1, h2, h⟩ := cmpE_is h
  obtain ⟨u, e1, e2⟩ := map_some h
  cases e2
  rw [AllP.append, AllP.append] at hP
  exact tv_cmp ok gk.units (hF _ _ _ h1 hP.1) (hF _ _ _ h2 hP.2.1) gk.nt e1 hP.2.2 hm
theorem peCmp_sound (ok : c.Ok) (gk : CfgOk c g) (hF : FOk c V F) {l : Expr} {ops : List CmpOp} {rs : List Expr} (h : cmpE ops rs (F l) F (peCmp g) = some (p, P)) (hP : AllP P) : EvOk c (.Compare l ops rs pos) V p V := by
  obtain ⟨op, r, z, z', rfl, rfl, hm, h1, h2, h⟩ := cmpE_is h
  obtain ⟨u, e1, e2⟩ := map_some h
  cases e2
  rw [AllP.append, AllP.append] at hP
  exact ev_cmp ok gk.units (hF _ _ _ h1 hP.1) (hF _ _ _ h2 hP.2.1) gk.nt e1 hP.2.2 hm
theorem pt_step (ok : c.Ok) (gk : CfgOk c g) (hF : FOk c V F) (hT : TOk c V T) (hL : BOk c V L) : TOk c V (ptB g F T L V) := fun e b P h hP => by
  cases e with
  | Compare l ops rs pos => exact ptCmp_sound ok gk hF h hP
  | UnaryOp op x pos => cases op with
    | Not =>
      obtain ⟨u, e1, e2⟩ := map_some h
      cases e2
      exact tv_not (hT _ _ _ e1 hP)
    | _ => exact no h
  | BoolOp op es pos => exact tv_boolop (hL _ _ _ _ h hP)
  | Name x pos => exact ptVal_sound rfl (hF _) h hP
  | Attribute b a pos => exact ptVal_sound rfl (hF _) h hP
  | Call f es ks pos => exact ptVal_sound rfl (hF _) h hP
  | Constant k u pos => exact ptVal_sound rfl (hF _) h hP
  | Subscript b i pos => exact ptVal_sound rfl (hF _) h hP
  | _ => exact no h
theorem callN_sound (ok : c.Ok) (gk : CfgOk c g) (hA : AOk c V A) {x : Str} {px : Pos} {es : List Expr} (h : peCallN g x es V (A es) = some (p, P)) (hP : AllP P) : EvOk c (.Call (.Name x px) es [] pos) V p V := by
  obtain ⟨hs, h⟩ := oi h
  obtain ⟨z, z', h1, h2, h⟩ := two_is h
  obtain ⟨fv, hf, h⟩ := ob h
  obtain ⟨u, e1, e2⟩ := map_some h
  cases e2
  rw [AllP.append, AllP.append] at hP
  obtain ⟨k1, k2⟩ := gk.call _ _ _ _ _ e1
  have h1 := peName_sound (pos := px) ok gk h1
  rw [isV_is hf] at h1
  exact ev_call ok h1 k1 hs (hA _ _ _ h2 hP.2.1) (k2 hP.2.2)
theorem callM_sound (ok : c.Ok) (gk : CfgOk c g) (hA : AOk c V A) {b : Expr} {a : Str} {apos : Pos} {es : List Expr} (h : peCallM g b a apos pos es V (A es) = some (p, P)) (hP : AllP P) : EvOk c (.Call (.Attribute b a apos) es [] pos) V p V := by
  obtain ⟨y, hy, h⟩ := ob h
  obtain ⟨hs, h⟩ := oi h
  obtain ⟨z, z', h1, h2, h⟩ := two_is h
  obtain ⟨k, hk, h⟩ := ob h
  obtain ⟨fa, hfa, h⟩ := ob h
  obtain ⟨u, e1, e2⟩ := map_some h
  cases e2
  rw [AllP.append, AllP.append] at hP
  obtain ⟨s1, s2, s3⟩ := callLine_is hs
  obtain ⟨k1, k2⟩ := gk.call _ _ _ _ _ e1
  obtain ⟨C, att, o1, o2, o3, o4⟩ := methOf_is gk hfa
  have h1 := peName_sound (pos := y.2) ok gk h1
  rw [isO_is hk] at h1
  rw [nameIn_is hy]
  exact ev_meth base_name ok h1 o1 o3 o2 k1 s2 s1 s3 (hA _ _ _ h2 hP.2.1) (k2 hP.2.2)
theorem call_step (ok : c.Ok) (gk : CfgOk c g) (hA : AOk c V A) {f : Expr} {es : List Expr} {kws : List Keyword} (h : peCall g f es kws pos V (A es) = some (p, P)) (hP : AllP P) : EvOk c (.Call f es kws pos) V p V := by
  obtain ⟨hk, h⟩ := oi h
  obtain ⟨k, e, h⟩ := ob h
  rw [List.isEmpty_iff.mp hk, calOf_is e]
  cases k with
  | name x px => exact callN_sound ok gk hA h hP
  | attr b a apos => exact callM_sound ok gk hA h hP
theorem rev_sound (ok : c.Ok) (hF : FOk c V F) {b e : Expr} {lo up : Option Expr} {ip : Pos} (h : two (F b) (F e) (peRev lo up) = some (p, P)) (hP : AllP P) : EvOk c (.Subscript b (.Slice lo up (some e) ip) pos) V p V := by
  obtain ⟨z, y, h1, h2, h⟩ := two_is h
  obtain ⟨hn, h⟩ := oi h
  obtain ⟨i, hi, h⟩ := ob h
  obtain ⟨hm, h⟩ := oi h
  obtain ⟨w, e1, e2⟩ := map_some h
  cases e2
  obtain ⟨n1, n2⟩ := Bool.and_eq_true_iff.mp hn
  rw [Option.isNone_iff_eq_none.mp n1, Option.isNone_iff_eq_none.mp n2]
  rw [AllP.append, AllP.append] at hP
  have h2 := hF _ _ _ h2 hP.2.1
  rw [isI_is hi, beq_iff_eq.mp hm] at h2
  exact ev_rev ok (hF _ _ _ h1 hP.1) h2 e1 hP.2.2
theorem sl_sound (ok : c.Ok) (hF : FOk c V F) (hO : OOk c V O) {b : Expr} {lo up : Option Expr} {ip : Pos} (h : (two (F b) (O lo) fun z l => (O up).bind (peSl z l)) = some (p, P)) (hP : AllP P) : EvOk c (.Subscript b (.Slice lo up none ip) pos) V p V := by
  obtain ⟨z, l, h1, h2, h⟩ := two_is h
  obtain ⟨u, h3, h⟩ := ob h
  obtain ⟨w, e1, e2⟩ := map_some h
  cases e2
  rw [AllP.append, AllP.append, AllP.append] at hP
  exact ev_slice ok (hF _ _ _ h1 hP.1) (hO _ _ _ h2 hP.2.1) (hO _ _ _ h3 hP.2.2.1) e1 hP.2.2.2
theorem ix_sound (ok : c.Ok) (hF : FOk c V F) {b ix : Expr} (hpi : plainIdx ix = true) (h : two (F b) (F ix) (peIx V.objs) = some (p, P)) (hP : AllP P) : EvOk c (.Subscript b ix pos) V p V := by
  obtain ⟨z, y, h1, h2, h⟩ := two_is h
  obtain ⟨i, hi, h⟩ := ob h
  cases hk : isO z.1 with
  | some k =>
    rw [hk] at h
    obtain ⟨xs, hx, h⟩ := ob h
    obtain ⟨w, e1, e2⟩ := map_some h
    cases e2
    rw [AllP.append, AllP.append] at hP
    have h1 := hF _ _ _ h1 hP.1
    have h2 := hF _ _ _ h2 hP.2.1
    rw [isO_is hk] at h1
    rw [isI_is hi] at h2
    exact ev_itemO ok h1 h2 (listOfO_is hx) hpi e1 hP.2.2
  | none =>
    rw [hk] at h
    obtain ⟨w, e1, e2⟩ := map_some h
    cases e2
    rw [AllP.append, AllP.append] at hP
    have h2 := hF _ _ _ h2 hP.2.1
    rw [isI_is hi] at h2
    exact ev_item ok (hF _ _ _ h1 hP.1) h2 hpi e1 hP.2.2
theorem sub_step (ok : c.Ok) (gk : CfgOk c g) (hF : FOk c V F) (hO : OOk c V O) {b ix : Expr} (h : peSub1 V.objs (F b) ix F O (sliceOf ix) = some (p, P)) (hP : AllP P) : EvOk c (.Subscript b ix pos) V p V := by
  cases hs : sliceOf ix with
  | some s =>
    rw [hs] at h
    obtain ⟨lo, up, st⟩ := s
    obtain ⟨ip, rfl⟩ := sliceOf_is hs
    cases st with
    | none => exact sl_sound ok hF hO h hP
    | some e => exact rev_sound ok hF h hP
  | none =>
    rw [hs] at h
    obtain ⟨hpi, h⟩ := oi h
    exact ix_sound ok hF hpi h hP
theorem ev_usub {x : Expr} {i : Int} {pos : Pos} (hx : EvOk c x V (.i i) V) : EvOk c (.UnaryOp .USub x pos) V (.i (-i)) V := fun s Q E I h =>
  wpAny_UnaryOp (hx s _ E I fun s1 v I1 t1 i1 => by
    obtain ⟨t, rfl⟩ := i1.ii
    exact P.neg_int (h _ _ (I1.toks _) (t1.trans (.toks _)) (.i _ _)))
theorem attrE_sound (ok : c.Ok) (gk : CfgOk c g) {b : Expr} {a : Str} (h : peAttrE g b a V = some (p, P)) : EvOk c (.Attribute b a pos) V p V := by
  obtain ⟨y, hy, h⟩ := ob h
  obtain ⟨z, h1, h⟩ := ob h
  obtain ⟨k, hk, h⟩ := ob h
  obtain ⟨q, e1, e2⟩ := map_some h
  cases e2
  have h1 := peName_sound (pos := y.2) ok gk h1
  rw [isO_is hk] at h1
  rw [nameIn_is hy]
  exact peAttr_sound ok gk h1 e1
theorem bin_step (ok : c.Ok) (hF : FOk c V F) {l r : Expr} {op : Operator} (h : two (F l) (F r) (peBin op) = some (p, P)) (hP : AllP P) : EvOk c (.BinOp l op r pos) V p V := by
  obtain ⟨z, z', h1, h2, h⟩ := two_is h
  obtain ⟨u, e1, e2⟩ := map_some h
  cases e2
  rw [AllP.append, AllP.append] at hP
  exact ev_bin ok (hF _ _ _ h1 hP.1) (hF _ _ _ h2 hP.2.1) e1 hP.2.2
theorem un_step (hF : FOk c V F) {x : Expr} {op : UnaryOp} (h : peUn op (F x) = some (p, P)) (hP : AllP P) : EvOk c (.UnaryOp op x pos) V p V := by
  cases op with
  | USub =>
    obtain ⟨z, h1, h⟩ := ob h
    obtain ⟨i, hi, h⟩ := ob h
    cases h
    have h1 := hF _ _ _ h1 hP
    rw [isI_is hi] at h1
    exact ev_usub h1
  | _ => exact no h
theorem many_is {k : List PV → PV} {z : LP} (h : peMany k z = some (p, P)) : ∃ ps, z = some (ps, P) ∧ ps.length ≤ 1000 ∧ p = k ps := by
  obtain ⟨⟨ps, P'⟩, h1, h⟩ := ob h
  obtain ⟨hz, h⟩ := oi h
  cases h
  exact ⟨ps, h1, of_decide_eq_true hz, rfl⟩
theorem pe_step (ok : c.Ok) (gk : CfgOk c g) (hF : FOk c V F) (hA : AOk c V A) (hO : OOk c V O) (hT : TOk c V T) : ∀ e p P, peB g F A O T e V = some (p, P) → AllP P → EvOk c e V p V := fun e p P h hP => by
  cases e with
  | Name x pos => exact peName_sound ok gk h
  | Constant k u pos => exact peConst_sound h
  | Call f es kws pos => exact call_step ok gk hA h hP
  | Subscript b ix pos => exact sub_step ok gk hF hO h hP
  | Attribute b a pos => exact attrE_sound ok gk h
  | Compare l ops rs pos => exact peCmp_sound ok gk hF h hP
  | BinOp l op r pos => exact bin_step ok hF h hP
  | UnaryOp op x pos => exact un_step hF h hP
  | Tuple es k pos => obtain ⟨ps, h1, hz, rfl⟩ := many_is h; exact ev_tuple ok (hA _ _ _ h1 hP) hz
  | List es pos => obtain ⟨ps, h1, hz, rfl⟩ := many_is h; exact ev_list ok (hA _ _ _ h1 hP) hz
  | IfExp t a b pos =>
    obtain ⟨z, h1, h⟩ := ob h
    obtain ⟨w, e1, e2⟩ := map_some h
    cases e2
    rw [AllP.append] at hP
    obtain ⟨k1, k2⟩ := iteP_sound (hF a) (hF b) e1 hP.2
    exact ev_ifexp (hT _ _ _ h1 hP.1) k1 k2
  | _ => exact no h
end
theorem pe_ok (ok : c.Ok) (gk : CfgOk c g) : ∀ n : Nat, PeOk c g V n
  | 0 => ⟨(fun _ _ _ h => no h), (fun _ _ _ h => no h), (fun _ _ _ h => no h), (fun _ _ _ h => no h), (fun _ _ _ _ h => no h)⟩
  | n + 1 => let ih := pe_ok ok gk n; ⟨fun e p P h => pe_step ok gk ih.e ih.as ih.o ih.t e p P h, fun es ps P h => pas_step ok ih.e ih.as es ps P h, fun e k P h => pop_step ih.e e k P h, fun e b P h => pt_step ok gk ih.e ih.t ih.al e b P h, fun op es b P h => pal_step ih.t ih.al op es b P h⟩
end
end M6
section N6
noncomputable abbrev FP := Option (PV × List PO × List Prop)
noncomputable abbrev LFP := Option (List PV × List PO × List Prop)
set_option backward.match.sparseCases false in
noncomputable def plainBase : Expr → Bool
  | .Name .. => true
  | .Attribute .. => true
  | .Subscript .. => true
  | _ => false
set_option backward.match.sparseCases false in
noncomputable def orF (z : VP) (objs : List PO) (y : FP) : FP := match z with
  | some z => some (z.1, objs, z.2)
  | none => y
theorem orF_is {z : VP} {objs objs' : List PO} {y : FP} {p : PV} {P : List Prop} (h : orF z objs y = some (p, objs', P)) : (z = some (p, P) ∧ objs' = objs) ∨ y = some (p, objs', P) := by
  cases z with
  | some z => cases h; exact .inl ⟨rfl, rfl⟩
  | none => exact .inr h
noncomputable def appF (g : Cfg) (f : Value) (ps : List PV) (objs : List PO) : FP := orF (g.call f ps objs) objs (g.ecall f ps objs)
noncomputable def pfApp (g : Cfg) (f : Value) (ps : List PV) (objs : List PO) (P Q : List Prop) : FP := (appF g f ps objs).map fun u => (u.1, u.2.1, P ++ (Q ++ u.2.2))
noncomputable def pfCallN (g : Cfg) (x : Str) (es : List Expr) (V : View) (as : LFP) : FP := if es.all noStar then two (peName g x V) as fun z z' => (isV z.1).bind fun fv => pfApp g fv z'.1 z'.2.1 z.2 z'.2.2 else none
set_option backward.match.sparseCases false in
noncomputable def dqO : PO → Option (List PV)
  | .dq xs => some xs
  | _ => none
noncomputable def dqOfO (objs : List PO) (k : Nat) : Option (List PV) := objs[k]?.bind dqO
theorem dqOfO_is {objs : List PO} {k : Nat} {xs : List PV} (h : dqOfO objs k = some xs) : objs[k]? = some (.dq xs) := by
  obtain ⟨po, e, h⟩ := ob h
  rw [e]
  cases po <;> first | exact no h | (cases h; rfl)
set_option backward.match.sparseCases false in
noncomputable def pfMethD (g : Cfg) (as : LFP) (a : Str) (z : PV × List PO × List Prop) (k : Nat) : Option (List PV) → FP
  | some _ => as.bind fun z' => (dqOfO z'.2.1 k).bind fun xs => (dmP a xs z'.1).map fun u => (u.1, z'.2.1.set k (.dq u.2.1), z.2.2 ++ (z'.2.2 ++ u.2.2))
  | none => two (methOf g z.2.1 a k) as fun fa z' => pfApp g (.ref fa) (.o k :: z'.1) z'.2.1 z.2.2 z'.2.2
set_option backward.match.sparseCases false in
noncomputable def pfMeth (g : Cfg) (as : LFP) (a : Str) (z : PV × List PO × List Prop) (k : Nat) : Option (List PV) → FP
  | some _ => as.bind fun z' => (listOfO z'.2.1 k).bind fun xs => (lmP a xs z'.1).map fun u => (u.1, z'.2.1.set k (.list u.2.1), z.2.2 ++ (z'.2.2 ++ u.2.2))
  | none => pfMethD g as a z k (dqOfO z.2.1 k)
noncomputable def pfCallM (g : Cfg) (F : Expr → View → FP) (A : List Expr → View → LFP) (b : Expr) (a : Str) (apos pos : Pos) (es : List Expr) (V : View) : FP := if plainBase b && callLine apos pos es then (F b V).bind fun z => (isO z.1).bind fun k => pfMeth g (A es ⟨V.loc, z.2.1⟩) a z k (listOfO z.2.1 k) else none
set_option backward.match.sparseCases false in
noncomputable def pfCal (g : Cfg) (F : Expr → View → FP) (A : List Expr → View → LFP) (pos : Pos) (es : List Expr) (V : View) : Cal → FP
  | .name x _ => pfCallN g x es V (A es V)
  | .attr b a apos => pfCallM g F A b a apos pos es V
noncomputable def pfMany (k : List PV → PV) (z : LFP) : FP := z.bind fun z => if decide (z.1.length ≤ 1000) then some (k z.1, z.2) else none
noncomputable def pfBin (F : Expr → View → FP) (op : Operator) (l r : Expr) (V : View) : FP := (F l V).bind fun z => (F r ⟨V.loc, z.2.1⟩).bind fun z' => (binP op z.1 z'.1).map fun u => (u.1, z'.2.1, z.2.2 ++ (z'.2.2 ++ u.2))
set_option backward.match.sparseCases false in
noncomputable def pfB (g : Cfg) (F : Expr → View → FP) (A : List Expr → View → LFP) (e : Expr) (V : View) : FP := match e with
  | .Call f es kws pos => if kws.isEmpty then (calOf f).bind (pfCal g F A pos es V) else none
  | .BinOp l op r _ => pfBin F op l r V
  | .Tuple es _ _ => pfMany .t (A es V)
  | .List es _ => pfMany .l (A es V)
  | _ => none
set_option backward.match.sparseCases false in
noncomputable def pfsB (F : Expr → View → FP) (A : List Expr → View → LFP) (es : List Expr) (V : View) : LFP := match es with
  | [] => some ([], V.objs, [])
  | e :: r => if noStar e then (F e V).bind fun z => (A r ⟨V.loc, z.2.1⟩).bind fun z' => some (z.1 :: z'.1, z'.2.1, z.2.2 ++ z'.2.2) else none
set_option backward.match.sparseCases false in
mutual
noncomputable def pf (g : Cfg) : Nat → Expr → View → FP
  | 0, _, _ => none
  | n + 1, e, V => orF (pe g (n + 1) e V) V.objs (pfB g (fun e V => pf g n e V) (fun es V => pfs g n es V) e V)
noncomputable def pfs (g : Cfg) : Nat → List Expr → View → LFP
  | 0, _, _ => none
  | n + 1, es, V => pfsB (fun e V => pf g n e V) (fun es V => pfs g n es V) es V
end
section
variable {c : Fc} {g : Cfg}
theorem appF_sound (gk : CfgOk c g) {f : Value} {ps : List PV} {objs objs' : List PO} {p : PV} {P : List Prop} (h : appF g f ps objs = some (p, objs', P)) : keepOk c.K f = true ∧ (AllP P → CallOk c f ps objs p objs') := by
  rcases orF_is h with ⟨h1, rfl⟩ | h
  · exact gk.call _ _ _ _ _ h1
  · exact gk.ecall _ _ _ _ _ _ h
theorem pfApp_is (gk : CfgOk c g) {f : Value} {ps : List PV} {objs objs' : List PO} {p : PV} {P Q R : List Prop} (h : pfApp g f ps objs P Q = some (p, objs', R)) (hP : AllP R) : AllP P ∧ AllP Q ∧ keepOk c.K f = true ∧ CallOk c f ps objs p objs' := by
  obtain ⟨u, e1, e2⟩ := map_some h
  cases e2
  rw [AllP.append, AllP.append] at hP
  obtain ⟨k1, k2⟩ := appF_sound gk e1
  exact ⟨hP.1, hP.2.1, k1, k2 hP.2.2⟩
noncomputable abbrev FFOk (c : Fc) (F : Expr → View → FP) : Prop := ∀ e V p objs P, F e V = some (p, objs, P) → AllP P → EvOk c e V p ⟨V.loc, objs⟩
noncomputable abbrev FAOk (c : Fc) (A : List Expr → View → LFP) : Prop := ∀ es V ps objs P, A es V = some (ps, objs, P) → AllP P → ArgsOk c es V ps ⟨V.loc, objs⟩
structure PfOk (c : Fc) (g : Cfg) (n : Nat) : Prop where
  e : FFOk c (pf g n)
  as : FAOk c (pfs g n)
section
variable {F : Expr → View → FP} {A : List Expr → View → LFP}
theorem pfs_step (ok : c.Ok) (hF : FFOk c F) (hA : FAOk c A) : FAOk c (pfsB F A) := fun es V ps objs P h hP => by
  cases es with
  | nil => cases h; exact args_nil
  | cons e r =>
    obtain ⟨hs, h⟩ := oi h
    obtain ⟨z, h1, h⟩ := ob h
    obtain ⟨z', h2, h⟩ := ob h
    cases h
    rw [AllP.append] at hP
    exact args_cons ok (hF _ _ _ _ _ h1 hP.1) (hA _ _ _ _ _ h2 hP.2) hs
theorem base_of {b : Expr} (h : plainBase b = true) {a : Str} {env : Env} : attributeBase b a env (eval b env) = eval b env := by
  cases b <;> first | rfl | exact nof h
variable {V : View} {p : PV} {objs : List PO} {P : List Prop} {pos : Pos}
theorem pfCallN_sound (ok : c.Ok) (gk : CfgOk c g) (hA : FAOk c A) {x : Str} {px : Pos} {es : List Expr} (h : pfCallN g x es V (A es V) = some (p, objs, P)) (hP : AllP P) : EvOk c (.Call (.Name x px) es [] pos) V p ⟨V.loc, objs⟩ := by
  obtain ⟨hs, h⟩ := oi h
  obtain ⟨z, z', h1, h2, h⟩ := two_is h
  obtain ⟨fv, hf, h⟩ := ob h
  obtain ⟨_, q2, k1, k2⟩ := pfApp_is gk h hP
  have h1 := peName_sound (pos := px) ok gk h1
  rw [isV_is hf] at h1
  exact ev_call ok h1 k1 hs (hA _ _ _ _ _ h2 q2) k2
theorem map_elim {α β : Type} {f : α → β} {o : Option α} {b : β} {M : β → Prop} (h : o.map f = some b) (k : ∀ a, o = some a → M (f a)) : M b := by
  cases o with
  | none => exact no h
  | some a => exact Option.some.inj h ▸ k a rfl
noncomputable def FM (c : Fc) (e : Expr) (V : View) (z : PV × List PO × List Prop) : Prop := AllP z.2.2 → EvOk c e V z.1 ⟨V.loc, z.2.1⟩
theorem pfMeth_sound (ok : c.Ok) (gk : CfgOk c g) (hA : FAOk c A) {b : Expr} {a : Str} {apos : Pos} {es : List Expr} {k : Nat} {z z0 : PV × List PO × List Prop} (hb : plainBase b = true) (s1 : es.all noStar = true) (s2 : (apos.endLine == pos.line) = true) (s3 : es.length < 30) (hz : AllP z.2.2 → EvOk c b V (.o k) ⟨V.loc, z.2.1⟩) (h : pfMeth g (A es ⟨V.loc, z.2.1⟩) a z k (listOfO z.2.1 k) = some z0) : FM c (.Call (.Attribute b a apos) es [] pos) V z0 := by
  cases hx0 : listOfO z.2.1 k with
  | some xs0 =>
    rw [hx0] at h
    obtain ⟨z', h2, h⟩ := ob h
    obtain ⟨xs, hx, h⟩ := ob h
    refine map_elim (M := FM c _ V) h fun u e1 hP => ?_
    have hP := AllP.append.mp hP
    have hP2 := AllP.append.mp hP.2
    exact ev_lmeth ok (base_of hb) (hz hP.1) (listOfO_is hx0) s2 s1 s3 (hA _ _ _ _ _ h2 hP2.1) (listOfO_is hx) e1 hP2.2
  | none =>
    rw [hx0] at h
    have h : pfMethD g (A es ⟨V.loc, z.2.1⟩) a z k (dqOfO z.2.1 k) = some z0 := h
    cases hd0 : dqOfO z.2.1 k with
    | some xs0 =>
      rw [hd0] at h
      obtain ⟨z', h2, h⟩ := ob h
      obtain ⟨xs, hx, h⟩ := ob h
      refine map_elim (M := FM c _ V) h fun u e1 hP => ?_
      have hP := AllP.append.mp hP
      have hP2 := AllP.append.mp hP.2
      exact ev_dmeth ok (base_of hb) (hz hP.1) (dqOfO_is hd0) s2 s1 s3 (hA _ _ _ _ _ h2 hP2.1) (dqOfO_is hx) e1 hP2.2
    | none =>
      rw [hd0] at h
      intro hP
      obtain ⟨fa, z', hfa, h2, h⟩ := two_is h
      obtain ⟨q1, q2, k1, k2⟩ := pfApp_is gk (p := z0.1) (objs' := z0.2.1) (R := z0.2.2) h hP
      obtain ⟨C, att, o1, o2, o3, o4⟩ := methOf_is gk hfa
      exact ev_meth (base_of hb) ok (hz q1) o1 o3 o2 k1 s2 s1 s3 (hA _ _ _ _ _ h2 q2) k2
theorem pfCallM_sound (ok : c.Ok) (gk : CfgOk c g) (hF : FFOk c F) (hA : FAOk c A) {b : Expr} {a : Str} {apos : Pos} {es : List Expr} (h : pfCallM g F A b a apos pos es V = some (p, objs, P)) (hP : AllP P) : EvOk c (.Call (.Attribute b a apos) es [] pos) V p ⟨V.loc, objs⟩ := by
  obtain ⟨hs, h⟩ := oi h
  obtain ⟨z, h1, h⟩ := ob h
  obtain ⟨k, hk, h⟩ := ob h
  obtain ⟨hb, hs⟩ := Bool.and_eq_true_iff.mp hs
  obtain ⟨s1, s2, s3⟩ := callLine_is hs
  exact pfMeth_sound ok gk hA hb s1 s2 s3 (fun q => isO_is hk ▸ hF _ _ _ _ _ h1 q) h hP
theorem pfMany_is {k : List PV → PV} {z : LFP} (h : pfMany k z = some (p, objs, P)) : ∃ ps, z = some (ps, objs, P) ∧ ps.length ≤ 1000 ∧ p = k ps := by
  obtain ⟨⟨ps, P'⟩, h1, h⟩ := ob h
  obtain ⟨hz, h⟩ := oi h
  cases h
  exact ⟨ps, h1, of_decide_eq_true hz, rfl⟩
theorem pf_step (ok : c.Ok) (gk : CfgOk c g) (hF : FFOk c F) (hA : FAOk c A) : FFOk c (pfB g F A) := fun e V p objs P h hP => by
  cases e with
  | Call f es kws pos =>
    obtain ⟨hk, h⟩ := oi h
    obtain ⟨k, e, h⟩ := ob h
    rw [List.isEmpty_iff.mp hk, calOf_is e]
    cases k with
    | name x px => exact pfCallN_sound ok gk hA h hP
    | attr b a apos => exact pfCallM_sound ok gk hF hA h hP
  | BinOp l op r pos =>
    obtain ⟨z, h1, h⟩ := ob h
    obtain ⟨z', h2, h⟩ := ob h
    obtain ⟨u, e1, e2⟩ := map_some h
    cases e2
    rw [AllP.append, AllP.append] at hP
    exact ev_bin ok (hF _ _ _ _ _ h1 hP.1) (hF _ _ _ _ _ h2 hP.2.1) e1 hP.2.2
  | Tuple es k pos => obtain ⟨ps, h1, hz, rfl⟩ := pfMany_is h; exact ev_tuple ok (hA _ _ _ _ _ h1 hP) hz
  | List es pos => obtain ⟨ps, h1, hz, rfl⟩ := pfMany_is h; exact ev_list ok (hA _ _ _ _ _ h1 hP) hz
  | _ => exact no h
end
theorem pf_ok (ok : c.Ok) (gk : CfgOk c g) : ∀ n : Nat, PfOk c g n
  | 0 => ⟨(fun _ _ _ _ _ h => no h), (fun _ _ _ _ _ h => no h)⟩
  | n + 1 => let ih := pf_ok ok gk n; ⟨fun e V p objs P h hP => by
      rcases orF_is h with ⟨h1, rfl⟩ | h
      · exact (pe_ok ok gk _).e _ _ _ h1 hP
      · exact pf_step ok gk ih.e ih.as e V p objs P h hP, fun es V ps objs P h => pfs_step ok ih.e ih.as es V ps objs P h⟩
end
noncomputable abbrev Ds := List (Option Bool)
noncomputable abbrev SP := Option (PF × Ds × View × List Prop)
inductive Tgt where
  | name (x : Str)
  | attr (y : Str) (py : Pos) (a : Str)
  | tup (ts : List Expr)
set_option backward.match.sparseCases false in
noncomputable def tgtOf : Expr → Option Tgt
  | .Name x _ => some (.name x)
  | .Attribute b a _ => (nameIn b).map fun y => .attr y.1 y.2 a
  | .Tuple ts _ _ => some (.tup ts)
  | _ => none
noncomputable def scEnv (s : Scope) : Env := { locals := 0, globals := 0, builtins := 0, scope := s, cells := [] }
set_option backward.match.sparseCases false in
noncomputable def pureO {α : Type} : Sem α → Option α
  | .pure r => some r
  | _ => none
theorem pureO_is {α : Type} {t : Sem α} {r : α} (h : pureO t = some r) : t = .pure r := by
  cases t with
  | pure a => cases h; rfl
  | _ => exact no h
noncomputable def swOf (g : Cfg) (t e : Expr) : Option (Option (List Str)) := pureO (swappedStores [t] e (scEnv g.scope))
noncomputable def allLocal (g : Cfg) (xs : List Str) : Bool := xs.all fun x => g.scope.names.lookup x == some .local
noncomputable def setAt (g : Cfg) (objs : List PO) (a : Str) (k : Nat) (p : PV) : Option (List PO) := (instOf objs k).bind fun z => (g.seta.lookup z.1).bind fun ns => if ns.contains a && decide (z.2.length ≤ 900) then some (objs.set k (.inst z.1 (put a p z.2))) else none
set_option backward.match.sparseCases false in
noncomputable def sxTup (g : Cfg) (ts : List Expr) (ps : List PV) (ds : Ds) (V : View) (objs : List PO) (P : List Prop) : Option (List Str) → SP
  | none => (namesOf ts).bind fun xs => if xs.length == ps.length && allLocal g xs then some (.next, ds, ⟨putAll xs ps V.loc, objs⟩, P) else none
  | some xs => if xs.length == ps.length && allLocal g xs then some (.next, ds, ⟨putAll xs.reverse ps.reverse V.loc, objs⟩, P) else none
set_option backward.match.sparseCases false in
noncomputable def sxTgt (g : Cfg) (t e : Expr) (ds : Ds) (V : View) (z : PV × List PO × List Prop) : Tgt → SP
  | .name x => if g.scope.names.lookup x == some .local then some (.next, ds, ⟨put x z.1 V.loc, z.2.1⟩, z.2.2) else none
  | .attr y _ a => (peName g y ⟨V.loc, z.2.1⟩).bind fun z' => (isO z'.1).bind fun k => (setAt g z.2.1 a k z.1).map fun o => (.next, ds, ⟨V.loc, o⟩, z.2.2 ++ z'.2)
  | .tup ts => two (isT z.1) (swOf g t e) fun ps sw => sxTup g ts ps ds V z.2.1 z.2.2 sw
noncomputable def sxAssign (g : Cfg) (n : Nat) (t e : Expr) (ds : Ds) (V : View) : SP := (tgtOf t).bind fun tg => if notComp e then (pf g n e V).bind fun z => sxTgt g t e ds V z tg else none
noncomputable def augRead (g : Cfg) (objs : List PO) (a : Str) (k : Nat) : Option PV := (instOf objs k).bind fun w => (g.attr.lookup w.1).bind fun ns => if ns.contains a then (w.2.lookup a).bind handO else none
set_option backward.match.sparseCases false in
noncomputable def sxAugT (g : Cfg) (E : VP) (ds : Ds) (V : View) : Tgt → SP
  | .name x => if g.scope.names.lookup x == some .local then two (V.loc.lookup x) E fun p z => (addP p z.1).map fun u => (.next, ds, { V with loc := put x u.1 V.loc }, z.2 ++ u.2) else none
  | .attr y _ a => (peName g y V).bind fun z => (isO z.1).bind fun k => two (augRead g V.objs a k) E fun p z' => (addP p z'.1).bind fun u => (setAt g V.objs a k u.1).map fun o => (.next, ds, ⟨V.loc, o⟩, z.2 ++ (z'.2 ++ u.2))
  | .tup _ => none
set_option backward.match.sparseCases false in
noncomputable def sxAug (g : Cfg) (n : Nat) (t : Expr) (op : Operator) (e : Expr) (ds : Ds) (V : View) : SP := match op with
  | .Add => (tgtOf t).bind (sxAugT g (pe g n e V) ds V)
  | _ => none
noncomputable def addS (P : List Prop) (x : SP) : SP := x.map fun w => (w.1, w.2.1, w.2.2.1, P ++ w.2.2.2)
set_option backward.match.sparseCases false in
noncomputable def sxIf (X : List Stmt → Ds → View → SP) (b e : List Stmt) (V : View) (z : Bool × List Prop) : Ds → SP
  | [] => addS z.2 (X (if z.1 then b else e) [] V)
  | some d :: ds => (X (if d then b else e) ds V).map fun w => (w.1, w.2.1, w.2.2.1, z.2 ++ ((z.1 = d) :: w.2.2.2))
  | none :: ds => addS z.2 (X (if z.1 then b else e) ds V)
set_option backward.match.sparseCases false in
noncomputable def sxRet (F : Expr → View → FP) (ds : Ds) (V : View) : Option Expr → SP
  | some e => (F e V).map fun z => (.ret z.1, ds, ⟨V.loc, z.2.1⟩, z.2.2)
  | none => some (.ret (.v .none), ds, V, [])
set_option backward.match.sparseCases false in
noncomputable def sxB (g : Cfg) (n : Nat) (X : List Stmt → Ds → View → SP) (st : Stmt) (ds : Ds) (V : View) : SP := match st with
  | .Assign ts e _ => (one ts).bind fun t => sxAssign g n t e ds V
  | .AugAssign t op e _ => sxAug g n t op e ds V
  | .If t b e _ => (pt g n t V).bind fun z => sxIf X b e V z ds
  | .Return e _ => sxRet (pf g n) ds V e
  | .Break _ => some (.brk, ds, V, [])
  | .Continue _ => some (.cont, ds, V, [])
  | .Pass _ => some (.next, ds, V, [])
  | .Expr e _ => if notComp e then (pf g n e V).map fun z => (.next, ds, ⟨V.loc, z.2.1⟩, z.2.2) else none
  | _ => none
set_option backward.match.sparseCases false in
noncomputable def xsK (X : List Stmt → Ds → View → SP) (r : List Stmt) (z : PF × Ds × View × List Prop) : PF → SP
  | .next => addS z.2.2.2 (X r z.2.1 z.2.2.1)
  | _ => some z
set_option backward.match.sparseCases false in
noncomputable def xsB (S : Stmt → Ds → View → SP) (X : List Stmt → Ds → View → SP) (b : List Stmt) (ds : Ds) (V : View) : SP := match b with
  | [] => some (.next, ds, V, [])
  | st :: r => (S st ds V).bind fun z => xsK X r z z.1
set_option backward.match.sparseCases false in
mutual
noncomputable def sx (g : Cfg) : Nat → Stmt → Ds → View → SP
  | 0, _, _, _ => none
  | n + 1, st, ds, V => sxB g n (fun b ds V => xs g n b ds V) st ds V
noncomputable def xs (g : Cfg) : Nat → List Stmt → Ds → View → SP
  | 0, _, _, _ => none
  | n + 1, b, ds, V => xsB (fun st ds V => sx g n st ds V) (fun b ds V => xs g n b ds V) b ds V
end
section
variable {c : Fc} {g : Cfg}
set_option backward.match.sparseCases false in
noncomputable def TgtIs (t : Expr) : Tgt → Prop
  | .name x => ∃ p, t = .Name x p
  | .attr y py a => ∃ p, t = .Attribute (.Name y py) a p
  | .tup ts => ∃ k p, t = .Tuple ts k p
theorem tgt_is {t : Expr} {tg : Tgt} (h : tgtOf t = some tg) : TgtIs t tg := by
  cases t with
  | Name x p => cases h; exact ⟨_, rfl⟩
  | Attribute b a p =>
    obtain ⟨y, hy, h⟩ := map_some h
    cases h; rw [nameIn_is hy]; exact ⟨_, rfl⟩
  | Tuple ts k p => cases h; exact ⟨_, _, rfl⟩
  | _ => exact no h
theorem setAt_is {objs objs' : List PO} {a : Str} {k : Nat} {p : PV} (gk : CfgOk c g) (h : setAt g objs a k p = some objs') : ∃ C att, objs[k]? = some (.inst C att) ∧ setOk c.K C a = true ∧ att.length ≤ 900 ∧ objs' = objs.set k (.inst C (put a p att)) := by
  obtain ⟨z, hz, h⟩ := ob h
  obtain ⟨ns, hns, h⟩ := ob h
  obtain ⟨hq, h⟩ := oi h
  obtain ⟨q1, q2⟩ := Bool.and_eq_true_iff.mp hq
  cases h
  exact ⟨_, _, instOf_is hz, gk.seta _ _ hns _ q1, of_decide_eq_true q2, rfl⟩
theorem sw_same {ts : List Expr} {e : Expr} : ∀ a b : Env, a.scope = b.scope → swappedStores ts e a = swappedStores ts e b := fun a b h => by
  obtain ⟨⟩ := a
  obtain ⟨⟩ := b
  cases h
  rfl
theorem swOf_is (gk : CfgOk c g) {t e : Expr} {r : Option (List Str)} (h : swOf g t e = some r) : swappedStores [t] e c.env = pure r := (sw_same c.env (scEnv g.scope) gk.scope).trans (pureO_is h)
theorem allLocal_is (gk : CfgOk c g) {xs : List Str} (h : allLocal g xs = true) : ∀ x ∈ xs, c.env.kindOf x = some .local := fun x hx => (kind_of gk x).trans (beq_iff_eq.mp (List.all_eq_true.mp h x hx))
section
variable {V V' : View} {ds ds' : Ds} {f : PF} {P : List Prop} {pos : Pos}
theorem sxTup_sound (ok : c.Ok) (gk : CfgOk c g) {ts : List Expr} {k : Nat} {tp : Pos} {e : Expr} {ps : List PV} {objs : List PO} {Q : List Prop} {sw : Option (List Str)} (he : AllP Q → EvOk c e V (.t ps) ⟨V.loc, objs⟩) (hc : notComp e = true) (hsw : swOf g (.Tuple ts k tp) e = some sw) (h : sxTup g ts ps ds V objs Q sw = some (f, ds', V', P)) (hP : AllP P) : SxOk c (.Assign [.Tuple ts k tp] e pos) V f V' := by
  cases sw with
  | none =>
    obtain ⟨xs, hxs, h⟩ := ob h
    obtain ⟨hq, h⟩ := oi h
    obtain ⟨q1, q2⟩ := Bool.and_eq_true_iff.mp hq
    cases h
    exact sx_unpack ok gk.handled hxs (beq_iff_eq.mp q1) (allLocal_is gk q2) (he hP) hc (swOf_is gk hsw)
  | some xs =>
    obtain ⟨hq, h⟩ := oi h
    obtain ⟨q1, q2⟩ := Bool.and_eq_true_iff.mp hq
    cases h
    exact sx_unpackS ok gk.handled (beq_iff_eq.mp q1) (allLocal_is gk q2) (he hP) hc (swOf_is gk hsw)
theorem attr_sound (ok : c.Ok) (gk : CfgOk c g) {y a : Str} {py ap : Pos} {e : Expr} {z : PV × List PO × List Prop} {t : Expr} (he : AllP z.2.2 → EvOk c e V z.1 ⟨V.loc, z.2.1⟩) (hc : notComp e = true) (h : sxTgt g t e ds V z (.attr y py a) = some (f, ds', V', P)) (hP : AllP P) : SxOk c (.Assign [.Attribute (.Name y py) a ap] e pos) V f V' := by
  obtain ⟨z', h2, h⟩ := ob h
  obtain ⟨k, hk, h⟩ := ob h
  obtain ⟨o, e1, e2⟩ := map_some h
  cases e2
  rw [AllP.append] at hP
  obtain ⟨C, att, o1, o2, o3, rfl⟩ := setAt_is gk e1
  have h2 := peName_sound (pos := py) ok gk h2
  rw [isO_is hk] at h2
  exact sx_setattr ok (he hP.1) h2 o1 o2 o3 hc
theorem sxTgt_sound (ok : c.Ok) (gk : CfgOk c g) {t e : Expr} {tg : Tgt} {z : PV × List PO × List Prop} (ht : TgtIs t tg) (he : AllP z.2.2 → EvOk c e V z.1 ⟨V.loc, z.2.1⟩) (hc : notComp e = true) (h : sxTgt g t e ds V z tg = some (f, ds', V', P)) (hP : AllP P) : SxOk c (.Assign [t] e pos) V f V' := by
  cases tg with
  | name x =>
    obtain ⟨p, rfl⟩ := ht
    obtain ⟨hl, h⟩ := oi h
    cases h
    exact sx_assign ok ((kind_of gk _).trans (beq_iff_eq.mp hl)) (he hP) hc
  | attr y py a =>
    obtain ⟨p, rfl⟩ := ht
    exact attr_sound ok gk he hc h hP
  | tup ts =>
    obtain ⟨k, p, rfl⟩ := ht
    obtain ⟨ps, sw, hps, hsw, h⟩ := two_is h
    rw [isT_is hps] at he
    exact sxTup_sound ok gk he hc hsw h hP
theorem sxAssign_sound (ok : c.Ok) (gk : CfgOk c g) {n : Nat} {t e : Expr} (h : sxAssign g n t e ds V = some (f, ds', V', P)) (hP : AllP P) : SxOk c (.Assign [t] e pos) V f V' := by
  obtain ⟨tg, htg, h⟩ := ob h
  obtain ⟨hc, h⟩ := oi h
  obtain ⟨z, h1, h⟩ := ob h
  exact sxTgt_sound ok gk (tgt_is htg) ((pf_ok ok gk n).e _ _ _ _ _ h1) hc h hP
theorem augRead_is {objs : List PO} {a : Str} {k : Nat} {p : PV} (gk : CfgOk c g) (h : augRead g objs a k = some p) : ∃ C att, objs[k]? = some (.inst C att) ∧ attrOk c.K C a = true ∧ att.lookup a = some p ∧ handedP p = true := by
  obtain ⟨w, hw, h⟩ := ob h
  obtain ⟨ns, hns, h⟩ := ob h
  obtain ⟨hc, h⟩ := oi h
  obtain ⟨q, hp, h⟩ := ob h
  obtain ⟨rfl, hh⟩ := handO_is h
  exact ⟨_, _, instOf_is hw, gk.attr _ _ hns _ hc, hp, hh⟩
theorem augAttr_sound (ok : c.Ok) (gk : CfgOk c g) {y a : Str} {py ap : Pos} {e : Expr} {E : VP} (he : ∀ q Q, E = some (q, Q) → AllP Q → EvOk c e V q V) (h : sxAugT g E ds V (.attr y py a) = some (f, ds', V', P)) (hP : AllP P) : SxOk c (.AugAssign (.Attribute (.Name y py) a ap) .Add e pos) V f V' := by
  obtain ⟨z, h1, h⟩ := ob h
  obtain ⟨k, hk, h⟩ := ob h
  obtain ⟨p, z', hp, h2, h⟩ := two_is h
  obtain ⟨u, hu, h⟩ := ob h
  obtain ⟨o, e1, e2⟩ := map_some h
  cases e2
  rw [AllP.append, AllP.append] at hP
  obtain ⟨C, att, o1, o2, o3, rfl⟩ := setAt_is gk e1
  obtain ⟨C', att', r1, r2, r3, r4⟩ := augRead_is gk hp
  rw [o1] at r1
  cases r1
  have h1 := peName_sound (pos := py) ok gk h1
  rw [isO_is hk] at h1
  exact sx_augattr ok h1 o1 r2 r3 r4 (he _ _ h2 hP.2.1) hu hP.2.2 o2 o3
theorem augT_sound (ok : c.Ok) (gk : CfgOk c g) {t e : Expr} {tg : Tgt} {E : VP} (ht : TgtIs t tg) (he : ∀ q Q, E = some (q, Q) → AllP Q → EvOk c e V q V) (h : sxAugT g E ds V tg = some (f, ds', V', P)) (hP : AllP P) : SxOk c (.AugAssign t .Add e pos) V f V' := by
  cases tg with
  | name x =>
    obtain ⟨p, rfl⟩ := ht
    obtain ⟨hl, h⟩ := oi h
    obtain ⟨p, z, hp, h1, h⟩ := two_is h
    obtain ⟨u, e1, e2⟩ := map_some h
    cases e2
    rw [AllP.append] at hP
    exact sx_aug ok ((kind_of gk _).trans (beq_iff_eq.mp hl)) hp (he _ _ h1 hP.1) e1 hP.2
  | attr y py a =>
    obtain ⟨p, rfl⟩ := ht
    exact augAttr_sound ok gk he h hP
  | tup ts => exact no h
theorem sxAug_sound (ok : c.Ok) (gk : CfgOk c g) {n : Nat} {t e : Expr} {op : Operator} (h : sxAug g n t op e ds V = some (f, ds', V', P)) (hP : AllP P) : SxOk c (.AugAssign t op e pos) V f V' := by
  cases op with
  | Add =>
    obtain ⟨tg, htg, h⟩ := ob h
    exact augT_sound ok gk (tgt_is htg) ((pe_ok (V := V) ok gk n).e e) h hP
  | _ => exact no h
end
noncomputable abbrev SOk (c : Fc) (S : Stmt → Ds → View → SP) : Prop := ∀ st ds V f ds' V' P, S st ds V = some (f, ds', V', P) → AllP P → SxOk c st V f V'
noncomputable abbrev XOk (c : Fc) (X : List Stmt → Ds → View → SP) : Prop := ∀ b ds V f ds' V' P, X b ds V = some (f, ds', V', P) → AllP P → ExOk c b V f V'
structure SxK (c : Fc) (g : Cfg) (n : Nat) : Prop where
  s : SOk c (sx g n)
  b : XOk c (xs g n)
theorem addS_is {P : List Prop} {x : SP} {f : PF} {ds : Ds} {V : View} {R : List Prop} (h : addS P x = some (f, ds, V, R)) : ∃ Q, x = some (f, ds, V, Q) ∧ R = P ++ Q := by
  obtain ⟨w, e1, e2⟩ := map_some h
  cases e2
  exact ⟨_, e1, rfl⟩
theorem xsB_is {S : Stmt → Ds → View → SP} {X : List Stmt → Ds → View → SP} {st : Stmt} {r : List Stmt} {ds ds' : Ds} {V V' : View} {f : PF} {P : List Prop} (h : xsB S X (st :: r) ds V = some (f, ds', V', P)) :
    (∃ ds1 V1 P1 P2, S st ds V = some (.next, ds1, V1, P1) ∧ X r ds1 V1 = some (f, ds', V', P2) ∧ P = P1 ++ P2) ∨ (S st ds V = some (f, ds', V', P) ∧ f ≠ .next) := by
  obtain ⟨z, h1, h⟩ := ob h
  have h : xsK X r z z.1 = some (f, ds', V', P) := h
  have out : some z = some (f, ds', V', P) → z.1 ≠ .next → S st ds V = some (f, ds', V', P) ∧ f ≠ .next := fun h n => ⟨h1.trans h, fun q => n ((congrArg Prod.fst (Option.some.inj h)).trans q)⟩
  cases e : z.1 with
  | next =>
    rw [e] at h
    obtain ⟨Q, h2, rfl⟩ := addS_is h
    exact .inl ⟨_, _, _, _, h1.trans (congrArg some (Prod.ext e rfl)), h2, rfl⟩
  | brk => rw [e] at h; exact .inr (out h (by rw [e]; exact fun q => nomatch q))
  | cont => rw [e] at h; exact .inr (out h (by rw [e]; exact fun q => nomatch q))
  | ret p => rw [e] at h; exact .inr (out h (by rw [e]; exact fun q => nomatch q))
section
variable {S : Stmt → Ds → View → SP} {X : List Stmt → Ds → View → SP}
theorem xs_step (ok : c.Ok) (hS : SOk c S) (hX : XOk c X) : XOk c (xsB S X) := fun b ds V f ds' V' P h hP => by
  cases b with
  | nil => cases h; exact ex_nil
  | cons st r =>
    rcases xsB_is h with ⟨_, _, _, _, h1, h2, rfl⟩ | ⟨h1, hn⟩
    · rw [AllP.append] at hP
      exact ex_cons (hS _ _ _ _ _ _ _ h1 hP.1) (hX _ _ _ _ _ _ _ h2 hP.2)
    · exact ex_stop (hS _ _ _ _ _ _ _ h1 hP) hn
theorem sxIf_is {b e : List Stmt} {V V' : View} {z : Bool × List Prop} {ds ds' : Ds} {f : PF} {P : List Prop} (h : sxIf X b e V z ds = some (f, ds', V', P)) (hP : AllP P) : ∃ d ds1 Q, AllP z.2 ∧ z.1 = d ∧ X (if d then b else e) ds1 V = some (f, ds', V', Q) ∧ AllP Q := by
  cases ds with
  | nil =>
    obtain ⟨Q, h2, rfl⟩ := addS_is h
    rw [AllP.append] at hP
    exact ⟨_, _, _, hP.1, rfl, h2, hP.2⟩
  | cons d ds => cases d with
    | some d =>
      obtain ⟨w, e1, e2⟩ := map_some h
      cases e2
      rw [AllP.append] at hP
      exact ⟨d, _, _, hP.1, hP.2.1, e1, hP.2.2⟩
    | none =>
      obtain ⟨Q, h2, rfl⟩ := addS_is h
      rw [AllP.append] at hP
      exact ⟨_, _, _, hP.1, rfl, h2, hP.2⟩
theorem if_step (ok : c.Ok) (gk : CfgOk c g) {n : Nat} (hX : XOk c X) {t : Expr} {b e : List Stmt} {pos : Pos} {ds ds' : Ds} {V V' : View} {f : PF} {P : List Prop} (h : ((pt g n t V).bind fun z => sxIf X b e V z ds) = some (f, ds', V', P)) (hP : AllP P) : SxOk c (.If t b e pos) V f V' := by
  obtain ⟨z, h1, h⟩ := ob h
  obtain ⟨d, ds1, Q, q1, rfl, h2, q2⟩ := sxIf_is h hP
  exact sx_if ((pe_ok (V := V) ok gk n).t _ _ _ h1 q1) (hX _ _ _ _ _ _ _ h2 q2)
theorem sx_step (ok : c.Ok) (gk : CfgOk c g) {n : Nat} (hX : XOk c X) : SOk c (sxB g n X) := fun st ds V f ds' V' P h hP => by
  have ip := (pf_ok ok gk n).e
  cases st with
  | If t b e pos => exact if_step ok gk hX h hP
  | Assign ts e pos =>
    obtain ⟨t, ht, h⟩ := ob h
    rw [one_is ht]
    exact sxAssign_sound ok gk h hP
  | AugAssign t op e pos => exact sxAug_sound (n := n) ok gk h hP
  | Return e pos => cases e with
    | some e =>
      obtain ⟨z, e1, e2⟩ := map_some h
      cases e2
      exact sx_return (ip _ _ _ _ _ e1 hP)
    | none => cases h; exact sx_return0
  | Break => cases h; exact sx_break
  | Continue => cases h; exact sx_continue
  | Pass => cases h; exact sx_pass
  | Expr e pos =>
    obtain ⟨hc, h⟩ := oi h
    obtain ⟨z, e1, e2⟩ := map_some h
    cases e2
    exact sx_expr ok (ip _ _ _ _ _ e1 hP) hc
  | _ => exact no h
end
theorem sx_ok (ok : c.Ok) (gk : CfgOk c g) : ∀ n : Nat, SxK c g n
  | 0 => ⟨(fun _ _ _ _ _ _ _ h => no h), (fun _ _ _ _ _ _ _ h => no h)⟩
  | n + 1 => let ih := sx_ok ok gk n; ⟨fun st ds V f ds' V' P h => sx_step ok gk ih.b st ds V f ds' V' P h, fun b ds V f ds' V' P h => xs_step ok ih.s ih.b b ds V f ds' V' P h⟩
theorem sx_sound (ok : c.Ok) (gk : CfgOk c g) (n : Nat) : (∀ st ds V f ds' V' P, sx g n st ds V = some (f, ds', V', P) → AllP P → SxOk c st V f V') ∧ (∀ b ds V f ds' V' P, xs g n b ds V = some (f, ds', V', P) → AllP P → ExOk c b V f V') := ⟨(sx_ok ok gk n).s, (sx_ok ok gk n).b⟩
theorem pt_sound {V : View} (ok : c.Ok) (gk : CfgOk c g) (n : Nat) : (∀ e b P, pt g n e V = some (b, P) → AllP P → TvOk c e V b V) ∧ (∀ op es b P, pal g n op es V = some (b, P) → AllP P → AllOk c op es V b V) := ⟨(pe_ok ok gk n).t, (pe_ok ok gk n).al⟩
theorem xs_next {n : Nat} {st : Stmt} {r : List Stmt} {ds ds' : Ds} {V V1 : View} {P : List Prop} (h : xs g (n + 1) (st :: r) ds V = some (.next, ds', V1, P)) : ∃ ds1 V0 P1 P2, sx g n st ds V = some (.next, ds1, V0, P1) ∧ xs g n r ds1 V0 = some (.next, ds', V1, P2) ∧ P = P1 ++ P2 := by
  rcases xsB_is (show xsB (fun st ds V => sx g n st ds V) (fun b ds V => xs g n b ds V) (st :: r) ds V = some (.next, ds', V1, P) from h) with h | ⟨_, h⟩
  · exact h
  · exact (h rfl).elim
end
end N6
section M7
theorem bind_loop {M : Model} {A : Around} {E : Value → Shared → Prop} {env : Env} {L : Addr} (hL : env.locals = L) (hk : env.scope.kind = .function) {Q : Unit → Shared → Prop} (f : Str × Value → PUnit → Sem (ForInStep PUnit)) (hf : ∀ x u, f x u = (do storeName env x.1 x.2; pure (.yield PUnit.unit))) :
    ∀ (binds : List (Str × Value)) (s : Shared) (m : Str → Option Value), FrameAt s.heap L m → (∀ x ∈ binds, env.kindOf x.1 = some .local) →
      (∀ h', FrameAt h' L (fun x => (binds.reverse.lookup x).or (m x)) → Heap.SameBut L s.heap h' → Q () { s with heap := h', toks := s.toks + binds.length }) → wpAny M A (forIn binds PUnit.unit f) Q E s
  | [], s, m, F, _, h => by
    rw [List.forIn_nil]
    exact wpAny_pure (h s.heap (by simpa using F) (Heap.SameBut.refl ..))
  | (x, v) :: r, s, m, F, hl, h => by
    rw [List.forIn_cons, hf]
    refine wpAny_bind (wpAny_bind ?_)
    have hp : (env.scope.kind == .class || (env.scope.kind == .module && env.locals != env.globals)) = false := by rw [hk]; rfl
    rw [storeName_local (hl _ (.head _)) hp, hL]
    refine nsSet_frame F fun h1 F1 S1 => wpAny_pure ?_
    refine bind_loop hL hk f hf r _ _ F1 (fun y hy => hl y (.tail _ hy)) fun h2 F2 S2 => ?_
    have := h h2 (by
      have e : (fun y => (List.lookup y ((x, v) :: r).reverse).or (m y)) = fun y => (List.lookup y r.reverse).or (if y = x then some v else m y) := by
        funext y
        rw [List.reverse_cons, List.lookup_append]
        cases List.lookup y r.reverse with
        | some z => rfl
        | none =>
          show (List.lookup y [(x, v)]).or (m y) = _
          rw [List.lookup_cons]
          by_cases g : y = x
          · simp [g]
          · have : (y == x) = false := by simpa using g
            simp [this, g]
      rw [e]; exact F2) (S1.trans S2)
    rw [List.length_cons, ← Nat.add_assoc, Nat.add_right_comm] at this
    exact this
theorem enter_def {prog : Program} {w : World} {A : Around} {s : Shared} {R : Result → Shared → Prop} {f : Addr} {o : Obj} {fd : FuncData} {body : List Stmt} {args : Args} {binds : List (Str × Value)}
    (hroom : A.depth < recursionLimit) (ho : s.heap.get? f = some o) (hdata : o.data = .func fd) (hlim : s.heap.NoLimit) (hcd : s.heap.CodeRec fd.code fd.qualname) (hbody : fd.body = .stmts body) (hbind : BindsTo s fd args binds)
    (hcell : ∀ x ∈ fd.scope.names, x.2 ≠ .cell) (hloc : ∀ x ∈ binds, fd.scope.names.lookup x.1 = some .local) (hco : fd.scope.isCoroutine = false) (hgen : fd.scope.isGenerator = false) (hk : fd.scope.kind = .function)
    (h : ∀ h', FrameAt h' s.heap.objs.size (fun x => binds.reverse.lookup x) → (∀ b o, s.heap.get? b = some o → h'.get? b = some o) →
      wpAny (model prog w) (A.deeper (callEnv fd s.heap.objs.size f)) (execs body (callEnv fd s.heap.objs.size f)) (fun fl s' => R (.ok (.ret (match fl with | .ret v => v | _ => .none))) s')
        (fun e s' => wpAny (model prog w) (A.deeper (callEnv fd s.heap.objs.size f)) (leaving (callEnv fd s.heap.objs.size f) e) (fun _ s'' => R (.error e) s'') (fun e' s'' => R (.error e') s'') s')
        { s with heap := h', toks := s.toks + binds.length }) : codeAny (model prog w) A (.call (.ref f) args) R s := by
  refine codeAny_call_function hroom ho hdata hco hgen hbody hcd (hbind _ _ _ _ ?_)
  simp only [newFunctionEnv, Option.isSome_none, Bool.false_eq_true, if_false]
  refine wpAny_bind (wpAny_alloc ?_)
  rw [forIn_yield_id fd.closure (fun x hx c => by
    obtain ⟨name, kind⟩ := x
    have : (kind == NameKind.cell) = false := by simpa using hcell _ hx
    simp only [this, Bool.false_eq_true, if_false])]
  refine wpAny_bind (wpAny_pure (wpAny_bind ?_))
  have fresh : ∀ h' : Heap, Heap.SameBut s.heap.objs.size (s.heap.push { cls := .type "frame", data := .dict #[] }) h' → ∀ b o, s.heap.get? b = some o → h'.get? b = some o := fun h' sb b o e =>
    (sb.2 b (Nat.ne_of_lt (Heap.lt_size e))).trans (Heap.get?_push_of_some _ e)
  refine bind_loop (L := s.heap.objs.size) (env := callEnv fd s.heap.objs.size f) rfl hk _ (fun _ _ => rfl) binds { s with heap := s.heap.push { cls := .type "frame", data := .dict #[] } } (fun _ => none) ⟨Heap.Ns.new .., ⟨_, Heap.get?_push_size _ rfl, rfl⟩⟩ hloc fun h' F' S' => ?_
  have k := fresh h' S'
  refine wpAny_pure ⟨hlim.keeps k, codeAny_func (h h' ?_ k)⟩
  have e : (fun x => (List.lookup x binds.reverse).or none) = fun x => binds.reverse.lookup x := by funext x; cases List.lookup x binds.reverse <;> rfl
  rw [e] at F'; exact F'
theorem to_more {T : List Addr} {ρ : List (Addr × Addr)} {h : Heap} {L : Addr} (hL : h.get? L = none) : IsTo T (L :: T) ρ ρ h h := ⟨fun a ob n e _ _ => ⟨fun z => by rcases List.mem_cons.mp z with rfl | z; rw [hL] at e; exact no e; exact n z, e⟩, fun _ _ _ e => e⟩
theorem to_less {T : List Addr} {ρ : List (Addr × Addr)} {h : Heap} {L : Addr} : IsTo (L :: T) T ρ ρ h h := ⟨fun a ob n e _ _ => ⟨fun z => n (.tail _ z), e⟩, fun _ _ _ e => e⟩
theorem Is.more {T : List Addr} {ρ : List (Addr × Addr)} {h : Heap} {L : Addr} (hL : h.get? L = none) {p : PV} {v : Value} (i : Is T ρ h p v) : Is (L :: T) ρ h p v := i.to (to_more hL)
theorem IsL.more {T : List Addr} {ρ : List (Addr × Addr)} {h : Heap} {L : Addr} (hL : h.get? L = none) {p : List PV} {v : List Value} (i : IsL T ρ h p v) : IsL (L :: T) ρ h p v := i.to (to_more hL)
theorem Is.less {T : List Addr} {ρ : List (Addr × Addr)} {h : Heap} {L : Addr} {p : PV} {v : Value} (i : Is (L :: T) ρ h p v) : Is T ρ h p v := i.to to_less
theorem IsL.less {T : List Addr} {ρ : List (Addr × Addr)} {h : Heap} {L : Addr} {p : List PV} {v : List Value} (i : IsL (L :: T) ρ h p v) : IsL T ρ h p v := i.to to_less
theorem ObjAt.more {T : List Addr} {ρ : List (Addr × Addr)} {h : Heap} {L : Addr} {k : Nat} {po : PO} (hL : h.get? L = none) (x : ObjAt T ρ h k po) : ObjAt (L :: T) ρ h k po := x.to (to_more hL) fun _ _ _ _ e _ _ => e
theorem ObjAt.less {T : List Addr} {ρ : List (Addr × Addr)} {h : Heap} {L : Addr} {k : Nat} {po : PO} (x : ObjAt (L :: T) ρ h k po) : ObjAt T ρ h k po := x.to to_less fun _ _ _ _ e _ _ => e
structure Room (A : Around) (D : Nat) : Prop where
  depth : A.depth + D < recursionLimit
  units : A.units + 8 * D + 120 < cLine
  handled : A.handled = none
theorem Room.deeper {A : Around} {D : Nat} {env : Env} (r : Room A (D + 1)) : Room (A.deeper env).in1 D :=
  ⟨rd1 r.depth, ru (k := 4) (by decide) r.units, r.handled⟩
theorem Room.of_in1 {A : Around} {D : Nat} (r : Room A.in1 D) : Room A D := ⟨r.depth, ru1 r.units, r.handled⟩
theorem Room.le {A : Around} {D D' : Nat} (r : Room A D) (h : D' ≤ D) : Room A D' := ⟨rle (z := 0) h r.depth, rle (Nat.mul_le_mul_left 8 h) r.units, r.handled⟩
noncomputable def Spec (W : Wd) (D : Nat) (f : Value) (ps : List PV) (objs : List PO) (r : PV) (objs' : List PO) : Prop :=
  ∀ c : Fc, c.Ok → c.toWd = W → Room c.A D → CallOk c f ps objs r objs'
noncomputable def SpecC (W : Wd) (D : Nat) (f : Value) (ps : List PV) (objs : List PO) (r : PV) (objs' : List PO) : Prop :=
  ∀ c : Fc, c.Ok → c.toWd = W → Room c.A D → CodeOk c f ps objs r objs'
theorem SpecC.spec {W : Wd} {D : Nat} {f : Value} {ps : List PV} {objs objs' : List PO} {r : PV} (h : SpecC W D f ps objs r objs') : Spec W D f ps objs r objs' := fun c ok e room => (h c ok e room).call
structure DefIs (K : Frag) (f : Addr) (fd : FuncData) (body : List Stmt) : Prop where
  at_ : ∃ oc od sl, K.lookup f = some ⟨oc, od, .func fd, sl⟩
  body : fd.body = .stmts body
  glb : fd.globals = mainGlobals
  clo : fd.closure = []
  blt : fd.builtins = builtinsNs
  code : codeIn K fd.code fd.qualname = true
  cell : ∀ x ∈ fd.scope.names, x.2 ≠ .cell
  co : fd.scope.isCoroutine = false
  gen : fd.scope.isGenerator = false
  kind : fd.scope.kind = .function
set_option backward.match.sparseCases false in
noncomputable def dataFn : Data → Option FuncData
  | .func fd => some fd
  | _ => none
noncomputable def fnAt (K : Frag) (f : Addr) : Option FuncData := (K.lookup f).bind fun o => dataFn o.data
theorem fnAt_is {K : Frag} {f : Addr} {fd : FuncData} (h : fnAt K f = some fd) : ∃ oc od sl, K.lookup f = some ⟨oc, od, .func fd, sl⟩ := by
  obtain ⟨⟨oc, od, d, sl⟩, e, h⟩ := ob h
  rw [e]
  cases d with
  | func x => cases h; exact ⟨_, _, _, rfl⟩
  | _ => exact no h
noncomputable def isDef (K : Frag) (f : Addr) (fd : FuncData) : Bool := (fnAt K f).isSome && fd.globals == mainGlobals && fd.closure.isEmpty && fd.builtins == builtinsNs && codeIn K fd.code fd.qualname &&
  fd.scope.names.all (fun x => x.2 != .cell) && !fd.scope.isCoroutine && !fd.scope.isGenerator && fd.scope.kind == .function
theorem loc_binds {T : List Addr} {ρ : List (Addr × Addr)} {h : Heap} {loc : List (Str × PV)} {binds : List (Str × Value)} (hb : binds.map (·.1) = loc.map (·.1)) (hi : IsL T ρ h (loc.map (·.2)) (binds.map (·.2))) (nd : (loc.map (·.1)).Nodup) : LocOk T ρ h loc (fun x => binds.reverse.lookup x) := by
  intro x p hx
  have key : ∀ (loc : List (Str × PV)) (binds : List (Str × Value)), binds.map (·.1) = loc.map (·.1) → IsL T ρ h (loc.map (·.2)) (binds.map (·.2)) → loc.lookup x = some p → ∃ v, (x, v) ∈ binds ∧ Is T ρ h p v := by
    intro loc
    induction loc with
    | nil => intro binds _ _ e; cases e
    | cons q r ih =>
      intro binds hb hi e
      cases binds with
      | nil => cases hb
      | cons b bs =>
        simp only [List.map_cons, List.cons.injEq] at hb
        cases hi with
        | cons i1 i2 =>
          rw [List.lookup_cons] at e
          split at e
          · rename_i g
            cases e
            refine ⟨b.2, ?_, i1⟩
            rw [show x = b.1 from (beq_iff_eq.mp g).trans hb.1.symm]
            exact .head _
          · obtain ⟨v, m, i⟩ := ih bs hb.2 i2 e
            exact ⟨v, .tail _ m, i⟩
  obtain ⟨v, m, i⟩ := key loc binds hb hi hx
  refine ⟨v, ?_, i⟩
  have nd' : (binds.reverse.map (·.1)).Nodup := by
    rw [List.map_reverse, hb]
    exact List.pairwise_reverse.mpr (nd.imp fun h => h.symm)
  have m' : (x, v) ∈ binds.reverse := List.mem_reverse.mpr m
  clear hb hi key m
  generalize binds.reverse = l at nd' m'
  induction l with
  | nil => cases m'
  | cons q r ih =>
    simp only [List.map_cons, List.nodup_cons] at nd'
    show List.lookup x (q :: r) = some v
    obtain ⟨q1, q2⟩ := q
    rw [List.lookup_cons]
    rcases List.mem_cons.mp m' with e | m''
    · cases e; simp
    · have : (x == q1) = false := by
        cases g : x == q1 with
        | false => rfl
        | true => exact absurd (List.mem_map.mpr ⟨(x, v), m'', by exact (beq_iff_eq.mp g)⟩) nd'.1
      rw [this]
      exact ih nd'.2 m''
set_option backward.match.sparseCases false in
noncomputable def retP : PF → PV
  | .ret p => p
  | _ => .v .none
noncomputable abbrev Fc.sub (c : Fc) (e : Env) (L : Addr) : Fc := { c with A := c.A.deeper e, env := e, T := L :: c.T, L := L }
theorem fresh_size {h : Heap} : h.get? h.objs.size = none := by
  cases q : h.get? h.objs.size with
  | none => rfl
  | some o => exact absurd (Heap.lt_size q) (Nat.lt_irrefl _)
theorem Fc.Ok.size {c : Fc} (ok : c.Ok) {h : Heap} (live : ∀ b ∈ c.T, ∃ o, h.get? b = some o) : c.N ≤ h.objs.size :=
  let ⟨_, e⟩ := live c.L (ok.fx.mem _ (.head _)); Nat.le_of_lt (Nat.lt_of_le_of_lt (ok.fx.low _ (ok.fx.mem _ (.head _))) (Heap.lt_size e))
theorem Fc.Ok.subc {c : Fc} (ok : c.Ok) {f : Addr} {fd : FuncData} {body : List Stmt} (di : DefIs c.K f fd body) {h : Heap} (live : ∀ b ∈ c.T, ∃ o, h.get? b = some o) : (c.sub (callEnv fd h.objs.size f) h.objs.size).Ok := by
  have nL : h.objs.size ∉ c.T := fun hb => by obtain ⟨o, e⟩ := live _ hb; rw [fresh_size] at e; cases e
  refine ⟨⟨fun b hb => ?_, ?_, fun b hb => ?_⟩, di.kind, rfl, di.glb, di.blt, ok.lowK, ok.lo⟩
  · rcases List.mem_cons.mp hb with rfl | hb
    · exact .head _
    · exact .tail _ (ok.fx.mem b (.tail _ hb))
  · exact List.nodup_cons.mpr ⟨fun hb => nL (ok.fx.mem _ (.tail _ hb)), (List.nodup_cons.mp ok.fx.nodup).2⟩
  · rcases List.mem_cons.mp hb with rfl | hb
    · exact ok.size live
    · exact ok.fx.low b hb
theorem sub_frs {N : Nat} {A : Around} {fd : FuncData} {h h' : Heap} {L : Addr} {f : Addr} {m : Str → Option Value} (frs : Frs N A h') (hk : fd.scope.kind = .function) (NL : N ≤ L) (F' : FrameAt h' L m) : Frs N (A.deeper (callEnv fd L f)) h' := by
  obtain ⟨fs, e, hf⟩ := frs
  refine ⟨callEnv fd L f :: fs, by show (A.frames.map _) = _; rw [e]; rfl, fun env he => ?_⟩
  rcases List.mem_cons.mp he with rfl | he
  · exact ⟨by show fd.scope.kind ≠ _; rw [hk]; decide, _, _, rfl, NL, F'⟩
  · exact hf env he
theorem frs_sub {N : Nat} {A : Around} {e : Env} {h h' : Heap} (frs : Frs N A h) (x : Frs N (A.deeper e) h') : Frs N A h' := by
  obtain ⟨fs, q, hf⟩ := x
  obtain ⟨fs0, e0, _⟩ := frs
  have q : (A.frames.map (e :: ·)) = some fs := q
  rw [e0] at q; cases q
  exact ⟨fs0, e0, fun env he => hf env (.tail _ he)⟩
theorem sub_inv {c : Fc} (ok : c.Ok) {f : Addr} {fd : FuncData} {body : List Stmt} (di : DefIs c.K f fd body) {s : Shared} {h' : Heap} {objs : List PO} {loc : List (Str × PV)} {m : Str → Option Value} {t : Nat} (B : Base c.K c.N s.heap) (live : ∀ b ∈ c.T, ∃ o, s.heap.get? b = some o) (frs : Frs c.N c.A s.heap) (O : ObjsOk c.T c.ρ objs s.heap) (k' : ∀ b o, s.heap.get? b = some o → h'.get? b = some o) (F' : FrameAt h' s.heap.objs.size m) (z : LocOk (s.heap.objs.size :: c.T) c.ρ s.heap loc m) : Inv (c.sub (callEnv fd s.heap.objs.size f) s.heap.objs.size) ⟨loc, objs⟩ { s with heap := h', toks := t } := by
  have kk : Keep c.N [] s.heap h' := .of_all k'
  refine ⟨⟨⟨_, F', fun x p e => let ⟨v, e1, e2⟩ := z x p e; ⟨v, e1, e2.keep kk.all⟩⟩, fun k po e => ((O k po e).more fresh_size).keep kk (fun _ _ _ z => nomatch z) (fun _ z => nomatch z) kk.all⟩, B.keep (T := []) ok.lowK (fun _ h => nomatch h) ok.lo kk, fun b hb => ?_, sub_frs (h := h') (frs.keep kk) di.kind (ok.size live) F'⟩
  rcases List.mem_cons.mp hb with rfl | hb
  · obtain ⟨o, e, _⟩ := F'.cls; exact ⟨o, e⟩
  · obtain ⟨o, e⟩ := live b hb; exact ⟨o, k' b o e⟩
theorem sub_st {N : Nat} {M : List Addr} {s s' : Shared} {h' : Heap} {t : Nat} (k' : ∀ b o, s.heap.get? b = some o → h'.get? b = some o) (st : St N (s.heap.objs.size :: M) { s with heap := h', toks := t } s') : St N M s s' := by
  refine ⟨⟨fun b o nb e => st.keep.off b o (fun z => ?_) (k' b o e), fun b o e => st.keep.there b o (k' b o e)⟩, st.gens, st.os⟩
  rcases List.mem_cons.mp z with rfl | z
  · rw [fresh_size] at e; cases e
  · exact nb z
theorem call_def {W : Wd} {D : Nat} {f : Addr} {fd : FuncData} {body : List Stmt} {ps : List PV} {objs objs' : List PO} {fl : PF} {loc : List (Str × PV)} (di : DefIs W.K f fd body) (nd : (loc.map (·.1)).Nodup) (hl : ∀ x ∈ loc.map (·.1), fd.scope.names.lookup x = some .local)
    (hbind : ∀ (T : List Addr) (ρ : List (Addr × Addr)) (s : Shared) (vs : List Value), Base W.K W.N s.heap → (∀ b ∈ T, W.N ≤ b) → IsL T ρ s.heap ps vs → ∃ binds, BindsTo s fd ⟨vs, []⟩ binds ∧ binds.map (·.1) = loc.map (·.1) ∧ IsL T ρ s.heap (loc.map (·.2)) (binds.map (·.2)))
    (hrun : ∀ c : Fc, c.Ok → c.toWd = W → Room c.A.in1 D → c.env.scope = fd.scope → c.env.code = fd.code → ∃ V', ExOk c body ⟨loc, objs⟩ fl V' ∧ V'.objs = objs') : SpecC W (D + 1) (.ref f) ps objs (retP fl) objs' := by
  rintro c ok rfl room s vs R B live frs O ia hq
  obtain ⟨oc, od, sl, hK⟩ := di.at_
  have ho := B.k _ _ hK
  obtain ⟨binds, hb1, hb2, hb3⟩ := hbind c.T c.ρ s vs B ok.fx.low ia
  refine enter_def (binds := binds) (rd0 room.depth) ho rfl B.lim (codeRec_of B.k di.code) di.body hb1 di.cell (fun x hx => hl _ (hb2 ▸ List.mem_map_of_mem hx)) di.co di.gen di.kind fun h' F' k' => ?_
  have z := loc_binds hb2 (hb3.more fresh_size) nd
  obtain ⟨V', hx, rfl⟩ := hrun _ (ok.subc di live) rfl room.deeper rfl rfl
  refine hx _ _ _ (sub_inv ok di B live frs O k' F' z) fun s' fw I'' st hfl => ?_
  have fin : ∀ v, Is (s.heap.objs.size :: c.T) c.ρ s'.heap (retP fl) v → R (.ok (.ret v)) s' := fun v iv => hq s' v (sub_st k' st) I''.base (frs_sub frs I''.frs) (fun k po e => (I''.rep.objs k po e).less) iv.less
  cases fl with
  | ret p => obtain ⟨v, rfl, iv⟩ := hfl; exact fin _ iv
  | next => cases hfl; exact fin _ (.v _)
  | brk => cases hfl; exact fin _ (.v _)
  | cont => cases hfl; exact fin _ (.v _)
end M7
section M8
theorem Spec.le {W : Wd} {D D' : Nat} {f : Value} {ps : List PV} {objs objs' : List PO} {r : PV} (h : Spec W D f ps objs r objs') (hd : D ≤ D') : Spec W D' f ps objs r objs' := fun c ok e room => h c ok e (room.le hd)
structure Orc (W : Wd) (D : Nat) where
  fn : Value → List PV → List PO → Option (PV × List PO × List Prop)
  ok : ∀ f ps objs r objs' P, fn f ps objs = some (r, objs', P) → keepOk W.K f = true ∧ (AllP P → Spec W D f ps objs r objs')
structure POrc (W : Wd) (D : Nat) where
  fn : Value → List PV → List PO → Option (PV × List Prop)
  ok : ∀ f ps objs r P, fn f ps objs = some (r, P) → keepOk W.K f = true ∧ (AllP P → Spec W D f ps objs r objs)
noncomputable def Orc.none (W : Wd) (D : Nat) : Orc W D := ⟨fun _ _ _ => .none, fun _ _ _ _ _ _ h => nomatch h⟩
noncomputable def POrc.none (W : Wd) (D : Nat) : POrc W D := ⟨fun _ _ _ => .none, fun _ _ _ _ _ h => nomatch h⟩
noncomputable def POrc.or {W : Wd} {D : Nat} (a b : POrc W D) : POrc W D := ⟨fun f ps objs => iteO (a.fn f ps objs) (b.fn f ps objs), fun f ps objs r P h => by
  rcases iteO_is h with e | e
  · exact a.ok _ _ _ _ _ e
  · exact b.ok _ _ _ _ _ e⟩
noncomputable def POrc.one {W : Wd} {D : Nat} {f : Value} {ps : List PV} {objs : List PO} {r : PV} (hk : keepOk W.K f = true) (h : Spec W D f ps objs r objs) : POrc W D := ⟨fun f' ps' objs' => if f' = f then some (r, [(ps', objs') = (ps, objs)]) else .none, fun f' ps' objs' r' P e => by
  obtain ⟨g, e2⟩ := oi e
  subst g
  cases e2
  exact ⟨hk, fun hP => by obtain ⟨e1, e2⟩ := Prod.mk.inj hP.1; rw [e1, e2]; exact h⟩⟩
noncomputable def Orc.one {W : Wd} {D : Nat} {f : Value} {ps : List PV} {objs objs1 : List PO} {r : PV} (hk : keepOk W.K f = true) (h : Spec W D f ps objs r objs1) : Orc W D := ⟨fun f' ps' objs' => if f' = f then some (r, objs1, [(ps', objs') = (ps, objs)]) else .none, fun f' ps' objs' r' objs2 P e => by
  obtain ⟨g, e2⟩ := oi e
  subst g
  cases e2
  exact ⟨hk, fun hP => by obtain ⟨e1, e2⟩ := Prod.mk.inj hP.1; rw [e1, e2]; exact h⟩⟩
structure Tabs where
  nt : List Addr := []
  glob : List (Str × Value)
  attr : List (Addr × List Str)
  seta : List (Addr × List Str)
  meth : List (Addr × List (Str × Addr))
  alis : List (Addr × List (Str × Str))
noncomputable def ntB (K : Frag) (a : Addr) : Bool := (K.lookup a).any fun o => o.cls != .type "tuple" && o.cls != .type "list"
noncomputable def Tabs.okB (t : Tabs) (K : Frag) : Bool :=
  t.nt.all (ntB K) && (t.glob.all (fun p => globIs K p.1 p.2) && t.attr.all (fun p => p.2.all (attrOk K p.1)) && t.seta.all (fun p => p.2.all (setOk K p.1)) && t.meth.all (fun p => p.2.all fun q => methOk K p.1 q.1 q.2 && keepOk K (.ref q.2)))
theorem mem_of_lookup {α β : Type} [BEq α] [LawfulBEq α] {l : List (α × β)} {a : α} {b : β} (e : l.lookup a = some b) : (a, b) ∈ l := mem_lookup e
theorem callOk_pure {c : Fc} {f : Value} {ps : List PV} {objs : List PO} {r : PV} (h : ∀ (s : Shared) (vs : List Value) (Q E : Value → Shared → Prop), IsL c.T c.ρ s.heap ps vs → (∀ v tk, Is c.T c.ρ s.heap r v → Q v { s with toks := tk }) → wpAny c.M c.A (call f vs) Q E s) : CallOk c f ps objs r objs := by
  intro s vs Q E B live frs O ia hq
  exact h s vs Q E ia fun v tk iv => hq _ v (.toks tk) B frs O iv
theorem isL1 {T : List Addr} {ρ : List (Addr × Addr)} {h : Heap} {p : PV} {vs : List Value} (i : IsL T ρ h [p] vs) : ∃ v, vs = [v] ∧ Is T ρ h p v := by
  cases i with | cons a b => cases b; exact ⟨_, rfl, a⟩
theorem isL2 {T : List Addr} {ρ : List (Addr × Addr)} {h : Heap} {p q : PV} {vs : List Value} (i : IsL T ρ h [p, q] vs) : ∃ v u, vs = [v, u] ∧ Is T ρ h p v ∧ Is T ρ h q u := by
  cases i with | cons a b => obtain ⟨u, rfl, i⟩ := isL1 b; exact ⟨_, u, rfl, a, i⟩
inductive BN where
  | type | int | len | isi
set_option backward.match.sparseCases false in
noncomputable def BN.v : BN → Value
  | .type => .type "type"
  | .int => .type "int"
  | .len => .builtin "len"
  | .isi => .builtin "isinstance"
noncomputable def bnOf (f : Value) : Option BN := [BN.type, .int, .len, .isi].find? fun k => decide (f = k.v)
theorem bnOf_is {f : Value} {k : BN} (h : bnOf f = some k) : f = k.v := of_decide_eq_true (p := f = k.v) (List.find?_some (p := fun k : BN => decide (f = k.v)) (l := [BN.type, .int, .len, .isi]) h)
set_option backward.match.sparseCases false in
noncomputable def lenP (p : PV) (objs : List PO) : VP := match p with
  | .s x => some (.i x.length, [x.length ≤ sizeLine])
  | _ => none
set_option backward.match.sparseCases false in
noncomputable def typeP (p : PV) : VP := match p with
  | .i _ => some (.v (.type "int"), [])
  | .s _ => some (.v (.type "str"), [])
  | _ => none
set_option backward.match.sparseCases false in
noncomputable def isStrP : PV → VP
  | .s _ => some (.v (.bool true), [])
  | _ => none
noncomputable def isiP (p q : PV) : VP := (isV q).bind fun t => if t = .type "str" then isStrP p else none
set_option backward.match.sparseCases false in
noncomputable def isi2 : List PV → VP
  | [] => none
  | p :: r => (one r).bind (isiP p)
set_option backward.match.sparseCases false in
noncomputable def bltB (ps : List PV) (objs : List PO) : BN → VP
  | .isi => isi2 ps
  | .type => (one ps).bind typeP
  | .len => (one ps).bind fun p => lenP p objs
  | .int => (one ps).bind fun p => (isI p).map fun n => (.i n, [])
noncomputable def bltFn (f : Value) (ps : List PV) (objs : List PO) : VP := (bnOf f).bind (bltB ps objs)
theorem callOk_blt {c : Fc} {f : Value} {ps : List PV} {objs : List PO} {r : PV} (h : ∀ (s : Shared) (vs : List Value) (Q E : Value → Shared → Prop), IsL c.T c.ρ s.heap ps vs → ObjsOk c.T c.ρ objs s.heap → (∀ v tk, Is c.T c.ρ s.heap r v → Q v { s with toks := tk }) → wpAny c.M c.A (call f vs) Q E s) : CallOk c f ps objs r objs := by
  intro s vs Q E B live frs O ia hq
  exact h s vs Q E ia O fun v tk iv => hq _ v (.toks tk) B frs O iv
section
variable {c : Fc} {p q r : PV} {objs : List PO} {P : List Prop}
theorem lenP_ok (h : lenP p objs = some (r, P)) (hP : AllP P) : CallOk c (.builtin "len") [p] objs r objs := by
  refine callOk_blt fun s vs Q E ia O hq => ?_
  obtain ⟨v, rfl, i⟩ := isL1 ia
  cases p with
  | s x =>
    cases h
    obtain ⟨t, rfl⟩ := i.is
    have hP := hP.1
    exact P.len_str (by rw [sizeLine_eq] at hP; omega) (hq _ _ (.i _ _))
  | _ => exact no h
theorem typeP_ok (h : typeP p = some (r, P)) : CallOk c (.type "type") [p] objs r objs := by
  refine callOk_blt fun s vs Q E ia O hq => ?_
  obtain ⟨v, rfl, i⟩ := isL1 ia
  cases p with
  | i n =>
    cases h
    obtain ⟨t, rfl⟩ := i.ii
    exact call_type_of (typeIs_int s _ _) (by decide) (hq _ s.toks (.v _))
  | s x =>
    cases h
    obtain ⟨t, rfl⟩ := i.is
    exact call_type_of (typeIs_str s _ _) (by decide) (hq _ s.toks (.v _))
  | _ => exact no h
theorem isiP_ok (h : isiP p q = some (r, P)) : CallOk c (.builtin "isinstance") [p, q] objs r objs := by
  refine callOk_blt fun s vs Q E ia O hq => ?_
  obtain ⟨v, u, rfl, i, j⟩ := isL2 ia
  obtain ⟨t, ht, h⟩ := ob h
  obtain ⟨e, h⟩ := oi h
  subst e
  rw [isV_is ht] at j
  cases j.iv
  cases p with
  | s x => cases h; obtain ⟨t, rfl⟩ := i.is; exact PySem.IsiPair.str_str (hq _ s.toks (.v _))
  | _ => exact no h
theorem bltB_ok {b : BN} {ps : List PV} (h : bltB ps objs b = some (r, P)) (hP : AllP P) : CallOk c b.v ps objs r objs := by
  cases b with
  | isi => cases ps with
    | nil => exact no h
    | cons p q =>
      obtain ⟨q, hq, h⟩ := ob h
      rw [one_is hq]
      exact isiP_ok h
  | type => obtain ⟨p, hp, h⟩ := ob h; rw [one_is hp]; exact typeP_ok h
  | len => obtain ⟨p, hp, h⟩ := ob h; rw [one_is hp]; exact lenP_ok h hP
  | int =>
    obtain ⟨p, hp, h⟩ := ob h
    rw [one_is hp]
    obtain ⟨n, e1, e2⟩ := map_some h
    cases e2
    rw [isI_is e1]
    refine callOk_pure fun s vs Q E ia hq => ?_
    obtain ⟨v, rfl, i⟩ := isL1 ia
    obtain ⟨t, rfl⟩ := i.ii
    exact call_int_int (hq _ s.toks (.i _ _))
end
noncomputable def blt (W : Wd) (D : Nat) : POrc W D := ⟨bltFn, fun f ps objs r P h => by
  obtain ⟨b, hb, h⟩ := ob h
  rw [bnOf_is hb]
  exact ⟨by cases b <;> rfl, fun hP c ok e room => bltB_ok h hP⟩⟩
noncomputable def fdOf (K : Frag) (f : Addr) : FuncData := (fnAt K f).getD default
set_option backward.match.sparseCases false in
noncomputable def stmtsOf : FuncBody → Option (List Stmt)
  | .stmts b => some b
  | _ => none
theorem stmtsOf_is {x : FuncBody} {b : List Stmt} (h : stmtsOf x = some b) : x = .stmts b := by
  cases x with
  | stmts => cases h; rfl
  | _ => exact no h
noncomputable def bodyOf (fd : FuncData) : List Stmt := (stmtsOf fd.body).getD []
noncomputable def hasBody (fd : FuncData) : Bool := (stmtsOf fd.body).isSome
theorem getD_some {α : Type} {o : Option α} {d : α} (h : o.isSome = true) : o = some (o.getD d) := by
  cases o with
  | some a => rfl
  | none => cases h
set_option backward.match.sparseCases false in
noncomputable def nodupB : List Str → Bool
  | [] => true
  | x :: r => !r.contains x && nodupB r
theorem nodupB_ok : ∀ {l : List Str}, nodupB l = true → l.Nodup
  | [], _ => .nil
  | x :: r, h => by
    obtain ⟨h1, h2⟩ := Bool.and_eq_true_iff.mp h
    exact List.nodup_cons.mpr ⟨(fun z => by rw [List.contains_iff_mem.mpr z] at h1; cases h1), nodupB_ok h2⟩
theorem defIs_of {K : Frag} {f : Addr} (h : (isDef K f (fdOf K f) && hasBody (fdOf K f)) = true) : DefIs K f (fdOf K f) (bodyOf (fdOf K f)) := by
  obtain ⟨h, hb⟩ := Bool.and_eq_true_iff.mp h
  unfold isDef at h
  simp only [Bool.and_eq_true] at h
  obtain ⟨⟨⟨⟨⟨⟨⟨⟨h1, h2⟩, h3⟩, h4⟩, h5⟩, h6⟩, h7⟩, h8⟩, h9⟩ := h
  refine ⟨?_, ?_, beq_iff_eq.mp h2, List.isEmpty_iff.mp h3, beq_iff_eq.mp h4, h5, fun x hx => by simpa using List.all_eq_true.mp h6 x hx, by simpa using h7, by simpa using h8, beq_iff_eq.mp h9⟩
  · exact fnAt_is (getD_some h1)
  · exact stmtsOf_is (getD_some hb)
set_option backward.match.sparseCases false in
noncomputable def runPure {α : Type} (K : Frag) : Nat → Sem α → Option α
  | 0, _ => none
  | n + 1, t => match t with
    | .pure a => some a
    | .load a _ k => (K.lookup a).bind fun o => runPure K n (k o)
    | .rule _ k => runPure K n (k ())
    | .at _ k => runPure K n (k ())
    | .point _ k => runPure K n (k ())
    | _ => none
theorem runPure_sound {α : Type} {K : Frag} {M : Model} {A : Around} {s : Shared} (X : K.In s.heap) : ∀ {n : Nat} {t : Sem α} {a : α} {Q : α → Shared → Prop} {E : Value → Shared → Prop}, runPure K n t = some a → Q a s → wpAny M A t Q E s
  | 0, _, _, _, _, h, _ => no h
  | n + 1, t, a, Q, E, h, q => by
    have ih := @runPure_sound α K M A s X n
    cases t with
    | pure a => cases h; exact wpAny_pure q
    | load a x k => obtain ⟨o, e, h⟩ := ob h; exact nd_load (X _ _ e) (ih h q)
    | rule x k => exact nd_rule (ih h q)
    | «at» x k => exact fun Γ p hΓ => ih h q Γ _ hΓ
    | point x k => exact nd_point (ih h q)
    | _ => exact no h
structure Tabs.Ok (t : Tabs) (W : Wd) : Prop where
  b : t.okB W.K = true
  al : ∀ C ns, t.alis.lookup C = some ns → ∀ n al, ns.lookup n = some al → ∃ pr f, propOk W.K C n pr f = true ∧ ∀ k objs att p, objs[k]? = some (.inst C att) → att.lookup al = some p → handedP p = true → SpecC W 1 (.ref f) [.o k] objs p objs
noncomputable def mkCfg {W : Wd} {D : Nat} (scope : Scope) (t : Tabs) (po : POrc W D) (eo : Orc W D) : Cfg := ⟨scope, t.nt, t.glob, t.attr, t.seta, t.meth, t.alis, po.fn, eo.fn⟩
theorem mkCfg_ok {W : Wd} {D : Nat} {scope : Scope} {t : Tabs} {po : POrc W D} {eo : Orc W D} {c : Fc} (ok : c.Ok) (e : c.toWd = W) (room : Room c.A.in1 D) (hD1 : 1 ≤ D) (hs : c.env.scope = scope) (ht : t.Ok W) : CfgOk c (mkCfg scope t po eo) := by
  subst e
  obtain ⟨ht, hal⟩ := ht
  obtain ⟨h0, ht⟩ := Bool.and_eq_true_iff.mp ht
  obtain ⟨h123, h4⟩ := Bool.and_eq_true_iff.mp ht
  obtain ⟨h12, h3⟩ := Bool.and_eq_true_iff.mp h123
  obtain ⟨h1, h2⟩ := Bool.and_eq_true_iff.mp h12
  refine ⟨hs, by have := room.units; have e : c.A.in1.units = c.A.units + 1 := rfl; omega, room.handled, fun a ha => ?_, fun x v e => List.all_eq_true.mp h1 _ (mem_of_lookup e), fun C ns e n hn => ?_, fun C ns e n hn => ?_, fun C ms e n f hf => ?_, fun C ns e n al hn => ?_, fun f ps objs r P e => ?_, fun f ps objs r objs' P e => ?_⟩
  · have z := List.all_eq_true.mp h0 a (List.contains_iff_mem.mp ha)
    obtain ⟨o, eo, z⟩ := (Option.any_eq_true _ _).mp z
    obtain ⟨z1, z2⟩ := Bool.and_eq_true_iff.mp z
    exact ⟨o, eo, by simpa using z1, by simpa using z2⟩
  · exact List.all_eq_true.mp (List.all_eq_true.mp h2 _ (mem_of_lookup e)) n (List.contains_iff_mem.mp hn)
  · exact List.all_eq_true.mp (List.all_eq_true.mp h3 _ (mem_of_lookup e)) n (List.contains_iff_mem.mp hn)
  · exact Bool.and_eq_true_iff.mp (List.all_eq_true.mp (List.all_eq_true.mp h4 _ (mem_of_lookup e)) (n, f) (mem_of_lookup hf))
  · obtain ⟨pr, f, h1, h2⟩ := hal C ns e n al hn
    exact ⟨pr, f, h1, fun k objs att p a b d => h2 k objs att p a b d { c with A := c.A.in1 } ⟨ok.fx, ok.kind, ok.loc, ok.glb, ok.blt, ok.lowK, ok.lo⟩ rfl (room.le hD1)⟩
  · obtain ⟨x, y⟩ := po.ok _ _ _ _ _ e; exact ⟨x, fun z => y z c ok rfl room.of_in1⟩
  · obtain ⟨x, y⟩ := eo.ok _ _ _ _ _ _ e; exact ⟨x, fun z => y z c ok rfl room.of_in1⟩
noncomputable def defOk (K : Frag) (f : Addr) (names : List Str) : Bool := isDef K f (fdOf K f) && hasBody (fdOf K f) && nodupB names && names.all (fun x => (fdOf K f).scope.names.lookup x == some .local)
set_option backward.match.sparseCases false in
noncomputable def xr (g : Cfg) (n : Nat) (b : List Stmt) (ds : Ds) (V : View) : Option (PF × List PO × List Prop) := match xs g n b ds V with
  | some (f, _, V', P) => some (f, V'.objs, P)
  | none => none
theorem xr_ok {g : Cfg} {n : Nat} {b : List Stmt} {ds : Ds} {V : View} {f : PF} {objs : List PO} {P : List Prop} (h : xr g n b ds V = some (f, objs, P)) : ∃ ds' V', xs g n b ds V = some (f, ds', V', P) ∧ V'.objs = objs := by
  unfold xr at h
  split at h
  · rename_i e; cases h; exact ⟨_, _, e, rfl⟩
  · cases h
noncomputable abbrev Rf {α : Type} (a : α) : Prop := a = a
theorem spec_run {W : Wd} {D : Nat} {f : Addr} {ps : List PV} {objs objs' : List PO} {fl : PF} {loc : List (Str × PV)} {t : Tabs} {po : POrc W D} {eo : Orc W D} {n : Nat} {ds : Ds} {P : List Prop} {names : List Str}
    (hD : 1 ≤ D) (hd : defOk W.K f names = true) (ht : t.Ok W) (hn : loc.map (·.1) = names)
    (hbind : ∀ (T : List Addr) (ρ : List (Addr × Addr)) (s : Shared) (vs : List Value), Base W.K W.N s.heap → (∀ b ∈ T, W.N ≤ b) → IsL T ρ s.heap ps vs → ∃ binds, runPure W.K 30 (bindArgs (fdOf W.K f) ⟨vs, []⟩) = some binds ∧ binds.map (·.1) = names ∧ IsL T ρ s.heap (loc.map (·.2)) (binds.map (·.2)))
    (run : xr (mkCfg (fdOf W.K f).scope t po eo) n (bodyOf (fdOf W.K f)) ds ⟨loc, objs⟩ = some (fl, objs', P)) (hP : AllP P) : SpecC W (D + 1) (.ref f) ps objs (retP fl) objs' := by
  obtain ⟨h123, h4⟩ := Bool.and_eq_true_iff.mp hd
  obtain ⟨h12, h3⟩ := Bool.and_eq_true_iff.mp h123
  obtain ⟨ds', V', run, ho⟩ := xr_ok run
  refine call_def (loc := loc) (defIs_of h12) (hn ▸ nodupB_ok h3) (fun x hx => ?_) (fun T ρ s vs B hT ia => ?_) fun c ok e room hs _ => ⟨_, (sx_sound ok (mkCfg_ok ok e room hD hs ht) n).2 _ _ _ _ _ _ _ run hP, ho⟩
  · exact beq_iff_eq.mp (List.all_eq_true.mp h4 x (hn ▸ hx))
  · obtain ⟨binds, a, b, c⟩ := hbind T ρ s vs B hT ia
    exact ⟨binds, fun M A E Q q => runPure_sound B.k a q, hn ▸ b, c⟩
noncomputable def getterOk (K : Frag) (f C : Addr) (al : Str) : Bool := defOk K f ["self"] && attrOk K C al && (((one (bodyOf (fdOf K f))).bind retOf).bind fun e => (attOf e.1).bind fun x => (nameIn x.1).bind fun y => if y.1 == ("self" : Str) && x.2.1 == al then some () else none).isSome
theorem getter_ok {W : Wd} {f C : Addr} {al : Str} {k : Nat} {objs : List PO} {att : List (Str × PV)} {p : PV} (h : getterOk W.K f C al = true) (hb : ∀ v, runPure W.K 30 (bindArgs (fdOf W.K f) ⟨[v], []⟩) = some ([("self", v)] : List (Str × Value))) (ho : objs[k]? = some (.inst C att)) (hp : att.lookup al = some p) (hh : handedP p = true) :
    SpecC W 1 (.ref f) [.o k] objs p objs := by
  unfold getterOk at h
  simp only [Bool.and_eq_true] at h
  obtain ⟨⟨hd, ha⟩, hbody⟩ := h
  obtain ⟨h123, h4⟩ := Bool.and_eq_true_iff.mp hd
  obtain ⟨h12, h3⟩ := Bool.and_eq_true_iff.mp h123
  have hl : (fdOf W.K f).scope.names.lookup ("self" : Str) = some .local := beq_iff_eq.mp (List.all_eq_true.mp h4 _ (.head _))
  refine call_def (D := 0) (fl := .ret p) (loc := [("self", .o k)]) (defIs_of h12) (nodupB_ok h3) (fun x hx => ?_) (fun T ρ s vs B hT ia => ?_) fun c ok e room hs _ => ?_
  · rcases List.mem_singleton.mp hx with rfl; exact hl
  · obtain ⟨v, rfl, i⟩ := isL1 ia
    exact ⟨_, fun M A E Q q => runPure_sound B.k (hb v) q, rfl, .cons i .nil⟩
  · refine ⟨⟨[("self", .o k)], objs⟩, ?_, rfl⟩
    subst e
    obtain ⟨_, hb⟩ := Option.isSome_iff_exists.mp hbody
    obtain ⟨e, h1, hb⟩ := ob hb
    obtain ⟨st, h0, h1⟩ := ob h1
    obtain ⟨x, h2, hb⟩ := ob hb
    obtain ⟨y, h3, hb⟩ := ob hb
    obtain ⟨⟨e1, e2⟩, _⟩ := oi hb
    rw [one_is h0, retOf_is h1, attOf_is h2, nameIn_is h3, beq_iff_eq.mp e1, beq_iff_eq.mp e2]
    exact ex_stop (sx_return (ev_attr ok (ev_local ok (by unfold Env.kindOf; rw [hs]; exact hl) (by decide) rfl) ho ha hp hh)) (fun q => nomatch q)
theorem spec_bodyC {W : Wd} {D : Nat} {f : Addr} {ps : List PV} {objs objs' : List PO} {fl : PF} {loc : List (Str × PV)} {names : List Str}
    (hd : defOk W.K f names = true) (hn : loc.map (·.1) = names)
    (hbind : ∀ (T : List Addr) (ρ : List (Addr × Addr)) (s : Shared) (vs : List Value), Base W.K W.N s.heap → (∀ b ∈ T, W.N ≤ b) → IsL T ρ s.heap ps vs → ∃ binds, runPure W.K 30 (bindArgs (fdOf W.K f) ⟨vs, []⟩) = some binds ∧ binds.map (·.1) = names ∧ IsL T ρ s.heap (loc.map (·.2)) (binds.map (·.2)))
    (hrun : ∀ c : Fc, c.Ok → c.toWd = W → Room c.A.in1 D → c.env.scope = (fdOf W.K f).scope → c.env.code = (fdOf W.K f).code → ∃ V', ExOk c (bodyOf (fdOf W.K f)) ⟨loc, objs⟩ fl V' ∧ V'.objs = objs') : SpecC W (D + 1) (.ref f) ps objs (retP fl) objs' := by
  obtain ⟨h123, h4⟩ := Bool.and_eq_true_iff.mp hd
  obtain ⟨h12, h3⟩ := Bool.and_eq_true_iff.mp h123
  refine call_def (loc := loc) (defIs_of h12) (hn ▸ nodupB_ok h3) (fun x hx => ?_) (fun T ρ s vs B hT ia => ?_) hrun
  · exact beq_iff_eq.mp (List.all_eq_true.mp h4 x (hn ▸ hx))
  · obtain ⟨binds, a, b, c⟩ := hbind T ρ s vs B hT ia
    exact ⟨binds, fun M A E Q q => runPure_sound B.k a q, hn ▸ b, c⟩
theorem spec_body {W : Wd} {D : Nat} {f : Addr} {ps : List PV} {objs objs' : List PO} {fl : PF} {loc : List (Str × PV)} {names : List Str}
    (hd : defOk W.K f names = true) (hn : loc.map (·.1) = names)
    (hbind : ∀ (T : List Addr) (ρ : List (Addr × Addr)) (s : Shared) (vs : List Value), Base W.K W.N s.heap → (∀ b ∈ T, W.N ≤ b) → IsL T ρ s.heap ps vs → ∃ binds, runPure W.K 30 (bindArgs (fdOf W.K f) ⟨vs, []⟩) = some binds ∧ binds.map (·.1) = names ∧ IsL T ρ s.heap (loc.map (·.2)) (binds.map (·.2)))
    (hrun : ∀ c : Fc, c.Ok → c.toWd = W → Room c.A.in1 D → c.env.scope = (fdOf W.K f).scope → ∃ V', ExOk c (bodyOf (fdOf W.K f)) ⟨loc, objs⟩ fl V' ∧ V'.objs = objs') : SpecC W (D + 1) (.ref f) ps objs (retP fl) objs' :=
  spec_bodyC hd hn hbind fun c ok e room hs _ => hrun c ok e room hs
end M8
section M9
inductive LoopN (c : Fc) (test : Expr) (body : List Stmt) : Nat → View → PF → View → Prop
  | stop {n : Nat} {V V1 : View} : TvOk c test V false V1 → LoopN c test body n V .next V1
  | step {n : Nat} {V V1 V2 V3 : View} {f g : PF} : TvOk c test V true V1 → ExOk c body V1 f V2 → (f = .next ∨ f = .cont) → LoopN c test body n V2 g V3 → LoopN c test body (n + 1) V g V3
  | brk {n : Nat} {V V1 V2 : View} : TvOk c test V true V1 → ExOk c body V1 .brk V2 → LoopN c test body n V .next V2
  | ret {n : Nat} {V V1 V2 : View} {p : PV} : TvOk c test V true V1 → ExOk c body V1 (.ret p) V2 → LoopN c test body n V (.ret p) V2
theorem sx_while {c : Fc} {test : Expr} {body : List Stmt} {pos : Pos} {n : Nat} {V V' : View} {f : PF} (h : LoopN c test body n V f V') : SxOk c (.While test body [] pos) V f V' := by
  intro s Q E I k
  refine wpAny_While (codeAny_whileLoop (fun m s' => ∃ V1, LoopN c test body m V1 f V' ∧ Inv c V1 s' ∧ St c.N c.muts s s') ?_ n ⟨V, h, I, .refl s⟩)
  rintro m s1 ⟨V1, hl, I1, t1⟩
  cases hl with
  | stop ht =>
    refine ht s1 _ _ I1 fun s2 I2 t2 => ?_
    exact wpAny_execs_nil (k s2 _ I2 (t1.trans t2) rfl)
  | step ht hb hf hr =>
    refine ht s1 _ _ I1 fun s2 I2 t2 => ?_
    rw [if_pos rfl]
    refine hb s2 _ _ I2 fun s3 fl I3 t3 hfl => ?_
    rcases hf with rfl | rfl
    · cases hfl; exact ⟨_, Nat.lt_succ_self _, _, hr, I3, (t1.trans t2).trans t3⟩
    · cases hfl; exact ⟨_, Nat.lt_succ_self _, _, hr, I3, (t1.trans t2).trans t3⟩
  | brk ht hb =>
    refine ht s1 _ _ I1 fun s2 I2 t2 => ?_
    rw [if_pos rfl]
    refine hb s2 _ _ I2 fun s3 fl I3 t3 hfl => ?_
    cases hfl; exact k s3 _ I3 ((t1.trans t2).trans t3) rfl
  | ret ht hb =>
    refine ht s1 _ _ I1 fun s2 I2 t2 => ?_
    rw [if_pos rfl]
    refine hb s2 _ _ I2 fun s3 fl I3 t3 hfl => ?_
    obtain ⟨v, rfl, iv⟩ := hfl; exact k s3 _ I3 ((t1.trans t2).trans t3) ⟨v, rfl, iv⟩
theorem tv_true {c : Fc} {V : View} {k : Nat} {pos : Pos} : TvOk c (.Constant (.bool true) k pos) V true V := tv_plain (fun _ _ => rfl) ev_bool rfl trivial
theorem lookup_pre {α : Type} {l r : List (Str × α)} {x : Str} {p : α} (h : l.lookup x = some p) : (l ++ r).lookup x = some p := by
  rw [List.lookup_append, h]; rfl
theorem Inv.drop {c : Fc} {l r : List (Str × PV)} {objs : List PO} {s : Shared} (I : Inv c ⟨l ++ r, objs⟩ s) : Inv c ⟨l, objs⟩ s := by
  obtain ⟨⟨⟨m, hn, hl⟩, ho⟩, B, lv, F⟩ := I
  exact ⟨⟨⟨m, hn, fun x p e => hl x p (lookup_pre e)⟩, ho⟩, B, lv, F⟩
theorem ExOk.drop {c : Fc} {b : List Stmt} {V : View} {f : PF} {l r : List (Str × PV)} {objs : List PO} (h : ExOk c b V f ⟨l ++ r, objs⟩) : ExOk c b V f ⟨l, objs⟩ := fun s Q E I k => h s Q E I fun s' fl I' t hf => k s' fl I'.drop t hf
set_option backward.match.sparseCases false in
noncomputable def whOf : Stmt → Option (Expr × List Stmt × Pos)
  | .While t b els pos => if els.isEmpty then some (t, b, pos) else none
  | _ => none
theorem whOf_is {st : Stmt} {t : Expr} {b : List Stmt} {pos : Pos} (h : whOf st = some (t, b, pos)) : st = .While t b [] pos := by
  cases st with
  | While t b els pos => obtain ⟨h1, h⟩ := oi h; cases h; rw [List.isEmpty_iff.mp h1]
  | _ => exact no h
noncomputable abbrev WhX := List Stmt × Expr × List Stmt × Pos × List Stmt
set_option backward.match.sparseCases false in
noncomputable def splitW1 (st : Stmt) (r : List Stmt) (y : Option WhX) : Option (Expr × List Stmt × Pos) → Option WhX
  | some x => some ([], x.1, x.2.1, x.2.2, r)
  | none => y.map fun y => (st :: y.1, y.2)
set_option backward.match.sparseCases false in
noncomputable def splitW : List Stmt → Option WhX
  | [] => none
  | st :: r => splitW1 st r (splitW r) (whOf st)
theorem splitW_eq {l : List Stmt} : ∀ {pre post : List Stmt} {t : Expr} {b : List Stmt} {pos : Pos}, splitW l = some (pre, t, b, pos, post) → l = pre ++ .While t b [] pos :: post := by
  induction l with
  | nil => intro _ _ _ _ _ h; exact no h
  | cons st r ih =>
    intro pre post t b pos h
    have h : splitW1 st r (splitW r) (whOf st) = some (pre, t, b, pos, post) := h
    cases e : whOf st with
    | some x => rw [e] at h; cases h; rw [whOf_is e]; rfl
    | none =>
      rw [e] at h
      obtain ⟨⟨p, y⟩, hy, h⟩ := map_some h
      cases h
      rw [ih hy]; rfl
noncomputable def wX : WhX := ([], .Constant .none 0 default, [], default, [])
noncomputable def preW (l : List Stmt) : List Stmt := ((splitW l).getD wX).1
noncomputable def testW (l : List Stmt) : Expr := ((splitW l).getD wX).2.1
noncomputable def bodyW (l : List Stmt) : List Stmt := ((splitW l).getD wX).2.2.1
noncomputable def postW (l : List Stmt) : List Stmt := ((splitW l).getD wX).2.2.2.2
noncomputable def posW (l : List Stmt) : Pos := ((splitW l).getD wX).2.2.2.1
theorem splitW_is {l : List Stmt} (h : (splitW l).isSome = true) : l = preW l ++ .While (testW l) (bodyW l) [] (posW l) :: postW l := splitW_eq (getD_some h)
theorem xs_app {c : Fc} {g : Cfg} (ok : c.Ok) (gk : CfgOk c g) {rest : List Stmt} {f : PF} {V2 : View} : ∀ {n : Nat} {pre : List Stmt} {ds ds' : Ds} {V V1 : View} {P : List Prop}, xs g n pre ds V = some (.next, ds', V1, P) → AllP P → ExOk c rest V1 f V2 → ExOk c (pre ++ rest) V f V2
  | 0, _, _, _, _, _, _, h, _, _ => no h
  | n + 1, [], _, _, _, _, _, h, _, hr => by cases h; exact hr
  | n + 1, st :: r, ds, ds', V, V1, P, h, hP, hr => by
    obtain ⟨ds1, V0, P1, P2, h1, h2, rfl⟩ := xs_next h
    rw [AllP.append] at hP
    exact ex_cons ((sx_sound ok gk n).1 _ _ _ _ _ _ _ h1 hP.1) (xs_app ok gk h2 hP.2 hr)
end M9
section M10
noncomputable def frAddrs (l : List Env) : List Addr := l.filterMap (·.frame)
theorem frs_fun {N : Nat} {h : Heap} {as : List Addr} : ∀ {fs : List Env}, (∀ env ∈ fs, env.scope.kind ≠ .module ∧ ∃ L m, env.frame = some L ∧ N ≤ L ∧ FrameAt h L m) → (∀ env ∈ fs, ∀ a, env.frame = some a → a ∈ as) → h.FunFrames (hideAll h as) fs
  | [], _, _ => trivial
  | env :: r, hf, hin => by
    obtain ⟨h1, L, m, h2, h3, h4⟩ := hf env (.head _)
    obtain ⟨o, es, ep, ho, hd, _⟩ := h4.ns
    exact ⟨h1, ⟨L, o, h2, hideAll_none _ (hin env (.head _) L h2), ho, fun vs q => by rw [hd] at q; cases q⟩, frs_fun (fun e he => hf e (.tail _ he)) fun e he => hin e (.tail _ he)⟩
theorem leave_made {M : Model} {A : Around} {N : Nat} {h : Heap} {env : Env} {s : Shared} {e L : Addr} {X : String} {Q : Unit → Shared → Prop} {E : Value → Shared → Prop} (frs : Frs N A h) (hfr : ∃ r, A.frames = some (env :: r)) (hf : env.frame = some L) (hx : Heap.MadeExcOf h s.heap e (.type X) [])
    (hq : ∀ h', Keep N [] h h' → (∃ o, h'.get? e = some o ∧ o.cls = .type X) → Q () { s with heap := h' }) : wpAny M A (leaving env (.ref e)) Q E s := by
  obtain ⟨fs, e1, hfs⟩ := frs
  obtain ⟨r, e2⟩ := hfr
  rw [e1] at e2; cases e2
  have hin : ∀ env' ∈ (env :: r), ∀ a, env'.frame = some a → a ∈ frAddrs (env :: r) := fun env' he a ha => List.mem_filterMap.mpr ⟨env', he, ha⟩
  refine wpAny_leaves_madeW (base := hideAll h (frAddrs (env :: r))) e1 hf (fun b o q => of_hideAll _ q) (frs_fun hfs hin) hx fun h' t fl _ _ up => ?_
  have key : ∀ b o, h.get? b = some o → Same N b o (h'.get? b) := by
    intro b o hb
    by_cases g : b ∈ frAddrs (env :: r)
    · obtain ⟨env', he, ha⟩ := List.mem_filterMap.mp g
      obtain ⟨_, L', m, h2, h3, h4⟩ := hfs env' he
      rw [h2] at ha; cases ha
      obtain ⟨o1, ho1, hc⟩ := h4.cls
      obtain ⟨o2, es, ep, ho2, hd, _⟩ := h4.ns
      rw [hb] at ho1 ho2; cases ho1; cases ho2
      obtain ⟨sl, q⟩ := up b o (hx.keeps b o hb) (fun vs q => by rw [hd] at q; cases q)
      rw [q]
      exact .slots sl h3 hc
    · rw [fl.1 b o (hideAll_get _ hb g)]; exact .same
  refine hq h' ⟨fun b o _ hb => key b o hb, fun b o hb => ?_⟩ fl.there
  have := key b o hb
  generalize h'.get? b = r at this
  cases this <;> exact ⟨_, rfl⟩
noncomputable def MadeSt (s1 s' : Shared) (e : Addr) : Prop := Heap.MadeExcOf s1.heap s'.heap e (.type "StopIteration") [] ∧ s'.gens = s1.gens ∧ s'.os = s1.os
noncomputable def ExR (c : Fc) (b : List Stmt) (V V' : View) : Prop :=
  ∀ (s : Shared) (Q : Flow → Shared → Prop) (E : Value → Shared → Prop), Inv c V s → (∀ s1 s' e, Inv c V' s1 → St c.N c.muts s s1 → MadeSt s1 s' e → E (.ref e) s') → wpAny c.M c.A (execs b c.env) Q E s
noncomputable def SpecX (W : Wd) (D : Nat) (f : Value) (ps : List PV) (objs objs' : List PO) : Prop :=
  ∀ c : Fc, c.Ok → c.toWd = W → Room c.A D → ∀ (s : Shared) (vs : List Value) (Q E : Value → Shared → Prop), Base c.K c.N s.heap → (∀ b ∈ c.T, ∃ o, s.heap.get? b = some o) → Frs c.N c.A s.heap → ObjsOk c.T c.ρ objs s.heap → IsL c.T c.ρ s.heap ps vs →
    (∀ s' e, St c.N (mutsOf c.ρ) s s' → Base c.K c.N s'.heap → Frs c.N c.A s'.heap → ObjsOk c.T c.ρ objs' s'.heap → s'.TypeIs (.ref e) "StopIteration" → E (.ref e) s') → wpAny c.M c.A (call f vs) Q E s
theorem call_stop {W : Wd} {D : Nat} {f : Addr} {fd : FuncData} {body : List Stmt} {ps : List PV} {objs objs' : List PO} {loc : List (Str × PV)} (di : DefIs W.K f fd body) (nd : (loc.map (·.1)).Nodup) (hl : ∀ x ∈ loc.map (·.1), fd.scope.names.lookup x = some .local)
    (hbind : ∀ (T : List Addr) (ρ : List (Addr × Addr)) (s : Shared) (vs : List Value), Base W.K W.N s.heap → (∀ b ∈ T, W.N ≤ b) → IsL T ρ s.heap ps vs → ∃ binds, BindsTo s fd ⟨vs, []⟩ binds ∧ binds.map (·.1) = loc.map (·.1) ∧ IsL T ρ s.heap (loc.map (·.2)) (binds.map (·.2)))
    (hrun : ∀ c : Fc, c.Ok → c.toWd = W → Room c.A.in1 D → c.env.scope = fd.scope → ∃ V', ExR c body ⟨loc, objs⟩ V' ∧ V'.objs = objs') : SpecX W (D + 1) (.ref f) ps objs objs' := by
  rintro c ok rfl room s vs Q E B live frs O ia hq
  refine wpAny_call ?_
  obtain ⟨oc, od, sl, hK⟩ := di.at_
  have ho := B.k _ _ hK
  obtain ⟨binds, hb1, hb2, hb3⟩ := hbind c.T c.ρ s vs B ok.fx.low ia
  refine enter_def (binds := binds) (rd0 room.depth) ho rfl B.lim (codeRec_of B.k di.code) di.body hb1 di.cell (fun x hx => hl _ (hb2 ▸ List.mem_map_of_mem hx)) di.co di.gen di.kind fun h' F' k' => ?_
  have z := loc_binds hb2 (hb3.more fresh_size) nd
  obtain ⟨V', hx, rfl⟩ := hrun _ (ok.subc di live) rfl room.deeper rfl
  refine hx _ _ _ (sub_inv ok di B live frs O k' F' z) fun s1 s' e I'' st hm => ?_
  refine leave_made (N := c.N) (h := s1.heap) (X := "StopIteration") (A := c.A.deeper (callEnv fd s.heap.objs.size f)) I''.frs ?_ rfl hm.1 fun h2 k2 ht => ?_
  · obtain ⟨fs0, e0, _⟩ := frs
    exact ⟨fs0, by show (c.A.frames.map _) = _; rw [e0]; rfl⟩
  have I2 : Inv _ V' { s' with heap := h2 } := I''.keep (s' := { s' with heap := h2 }) (ok.subc di live) k2
  have st0 : St c.N (mutsOf c.ρ) s { s' with heap := h2 } := sub_st k' ⟨Keep.trans (h' := s1.heap) st.keep k2.all, by show Gn s.gens s'.gens; rw [hm.2.1]; exact st.gens, hm.2.2.trans st.os⟩
  obtain ⟨o, ho, hc⟩ := ht
  exact hq { s' with heap := h2 } e st0 I2.base (frs_sub frs I2.frs) (fun k po e => (I2.rep.objs k po e).less) ⟨o, ho, hc⟩
noncomputable abbrev XP := Option (View × List Prop)
set_option backward.match.sparseCases false in
noncomputable def raiseOf : Stmt → Option (Str × Pos × Pos)
  | .Raise (some e) none p => (nameIn e).map fun y => (y.1, y.2, p)
  | _ => none
theorem raiseOf_is {st : Stmt} {x : Str} {q p : Pos} (h : raiseOf st = some (x, q, p)) : st = .Raise (some (.Name x q)) none p := by
  cases st with
  | Raise e c p => cases e with
    | some e => cases c with
      | none => obtain ⟨y, hy, h⟩ := map_some h; cases h; rw [nameIn_is hy]
      | some _ => exact no h
    | none => exact no h
  | _ => exact no h
structure IfX where
  t : Expr
  b : List Stmt
  e : List Stmt
  p : Pos
set_option backward.match.sparseCases false in
noncomputable def ifOf : Stmt → Option IfX
  | .If t b e p => some ⟨t, b, e, p⟩
  | _ => none
theorem ifOf_is {st : Stmt} {i : IfX} (h : ifOf st = some i) : st = .If i.t i.b i.e i.p := by
  cases st with
  | If => cases h; rfl
  | _ => exact no h
noncomputable def addX (P : List Prop) (x : XP) : XP := x.map fun z => (z.1, P ++ z.2)
theorem addX_is {P R : List Prop} {x : XP} {V : View} (h : addX P x = some (V, R)) : ∃ Q, x = some (V, Q) ∧ R = P ++ Q := by
  obtain ⟨z, e1, e2⟩ := map_some h
  cases e2
  exact ⟨_, e1, rfl⟩
set_option backward.match.sparseCases false in
noncomputable def xxD (X : List Stmt → Ds → View → XP) (b e : List Stmt) (V : View) (z : Bool × List Prop) : Ds → XP
  | some d :: ds => (X (if d then b else e) ds V).map fun w => (w.1, z.2 ++ ((z.1 = d) :: w.2))
  | none :: ds => addX z.2 (X (if z.1 then b else e) ds V)
  | [] => addX z.2 (X (if z.1 then b else e) [] V)
set_option backward.match.sparseCases false in
noncomputable def xxK (X : List Stmt → Ds → View → XP) (r : List Stmt) (z : PF × Ds × View × List Prop) : PF → XP
  | .next => addX z.2.2.2 (X r z.2.1 z.2.2.1)
  | _ => none
set_option backward.match.sparseCases false in
noncomputable def xxN (X : List Stmt → Ds → View → XP) (r : List Stmt) (y : XP) : SP → XP
  | some z => xxK X r z z.1
  | none => y
set_option backward.match.sparseCases false in
noncomputable def xxS (g : Cfg) (n : Nat) (X : List Stmt → Ds → View → XP) (st : Stmt) (r : List Stmt) (ds : Ds) (V : View) : Option (Str × Pos × Pos) → XP
  | some x => if x.1 == ("StopIteration" : Str) && g.scope.names.lookup x.1 == some .globalImplicit && (g.glob.lookup x.1 == some (.type "StopIteration")) then some (V, []) else none
  | none => xxN X r ((ifOf st).bind fun i => (pt g n i.t V).bind fun z => xxD X i.b i.e V z ds) (sx g n st ds V)
set_option backward.match.sparseCases false in
noncomputable def xxB (g : Cfg) (n : Nat) (X : List Stmt → Ds → View → XP) (b : List Stmt) (ds : Ds) (V : View) : XP := match b with
  | [] => none
  | st :: r => xxS g n X st r ds V (raiseOf st)
set_option backward.match.sparseCases false in
noncomputable def xx (g : Cfg) : Nat → List Stmt → Ds → View → XP
  | 0, _, _, _ => none
  | n + 1, b, ds, V => xxB g n (fun b ds V => xx g n b ds V) b ds V
section
variable {c : Fc} {V V1 V2 : View}
theorem exr_cons {st : Stmt} {r : List Stmt} (h1 : SxOk c st V .next V1) (h2 : ExR c r V1 V2) : ExR c (st :: r) V V2 := by
  intro s Q E I k
  refine wpAny_execs_cons (h1 s _ E I fun s1 fl I1 t1 hf => ?_)
  cases hf
  exact h2 s1 Q E I1 fun s2 s3 e I2 t2 hm => k s2 s3 e I2 (t1.trans t2) hm
theorem exr_if {t : Expr} {bd el r : List Stmt} {pos : Pos} {b : Bool} (ht : TvOk c t V b V1) (h : ExR c (if b then bd else el) V1 V2) : ExR c (.If t bd el pos :: r) V V2 := by
  intro s Q E I k
  refine wpAny_execs_cons (wpAny_If (ht s _ E I fun s1 I1 t1 => ?_))
  cases b <;> exact h s1 _ E I1 fun s2 s3 e I2 t2 hm => k s2 s3 e I2 (t1.trans t2) hm
theorem glob_same {x : Str} {pos : Pos} {v : Value} {s : Shared} {E : Value → Shared → Prop} (ok : c.Ok) (I : Inv c V s) (hk : c.env.kindOf x = some .globalImplicit) (hd : (x == ("__debug__" : Str)) = false) (hg : globIs c.K x v = true) : wpAny c.M c.A (eval (.Name x pos) c.env) (fun u s₁ => u = v ∧ s₁ = s) E s := by
  refine Calls.Name_function_global ok.kind hk ?_ hd
  unfold loadGlobal
  rw [ok.glb]
  rcases Bool.or_eq_true_iff.mp hg with e | e
  · have e := beq_iff_eq.mp e
    exact nsMain I.base.k e rfl (wpAny_pure ⟨rfl, rfl⟩)
  · obtain ⟨e, e3⟩ := Bool.and_eq_true_iff.mp e
    obtain ⟨e1, e2⟩ := Bool.and_eq_true_iff.mp e
    refine nsMain I.base.k (beq_iff_eq.mp e1) rfl ?_
    obtain ⟨mb, hb, hx⟩ := I.base.b
    refine wpAny_bind (wpAny_nsGet (by rw [ok.blt]; exact hb) ?_)
    rw [hx x (by simpa using e3), beq_iff_eq.mp e2]
    exact wpAny_pure ⟨rfl, rfl⟩
theorem exr_raise {x : Str} {np pos : Pos} {r : List Stmt} (ok : c.Ok) (hh : c.A.handled = none) (hk : c.env.kindOf x = some .globalImplicit) (hd : (x == ("__debug__" : Str)) = false) (hg : globIs c.K x (.type "StopIteration") = true) : ExR c (.Raise (some (.Name x np)) none pos :: r) V V := by
  intro s Q E I k
  refine wpAny_execs_cons (owsi_raiseC hh ?_ fun h' e hm => ?_)
  · exact glob_same ok I hk hd hg
  · exact k s _ e I (.refl s) ⟨⟨hm.keeps, hm.new, hm.there⟩, rfl, rfl⟩
noncomputable abbrev RxOk (c : Fc) (X : List Stmt → Ds → View → XP) : Prop := ∀ b ds V V' P, X b ds V = some (V', P) → AllP P → ExR c b V V'
theorem xxD_is {X : List Stmt → Ds → View → XP} {b e : List Stmt} {z : Bool × List Prop} {ds : Ds} {P : List Prop} (h : xxD X b e V z ds = some (V1, P)) (hP : AllP P) : ∃ d ds1 Q, AllP z.2 ∧ z.1 = d ∧ X (if d then b else e) ds1 V = some (V1, Q) ∧ AllP Q := by
  cases ds with
  | nil =>
    obtain ⟨Q, h2, rfl⟩ := addX_is h
    rw [AllP.append] at hP
    exact ⟨_, _, _, hP.1, rfl, h2, hP.2⟩
  | cons d ds => cases d with
    | some d =>
      obtain ⟨w, e1, e2⟩ := map_some h
      cases e2
      rw [AllP.append] at hP
      exact ⟨d, _, _, hP.1, hP.2.1, e1, hP.2.2⟩
    | none =>
      obtain ⟨Q, h2, rfl⟩ := addX_is h
      rw [AllP.append] at hP
      exact ⟨_, _, _, hP.1, rfl, h2, hP.2⟩
theorem xxN_is {X : List Stmt → Ds → View → XP} {r : List Stmt} {y : XP} {z : SP} {P : List Prop} (h : xxN X r y z = some (V1, P)) : (∃ ds V0 P1 P2, z = some (.next, ds, V0, P1) ∧ X r ds V0 = some (V1, P2) ∧ P = P1 ++ P2) ∨ y = some (V1, P) := by
  cases z with
  | none => exact .inr h
  | some z =>
    obtain ⟨zf, zd, zV, zP⟩ := z
    cases zf with
    | next => obtain ⟨Q, h2, rfl⟩ := addX_is h; exact .inl ⟨_, _, _, _, rfl, h2, rfl⟩
    | _ => exact no h
theorem xx_step {g : Cfg} {X : List Stmt → Ds → View → XP} (ok : c.Ok) (gk : CfgOk c g) (hh : c.A.handled = none) {n : Nat} (hX : RxOk c X) : RxOk c (xxB g n X) := fun b ds V V' P h hP => by
  cases b with
  | nil => exact no h
  | cons st r =>
    have h : xxS g n X st r ds V (raiseOf st) = some (V', P) := h
    cases e : raiseOf st with
    | some x =>
      rw [e] at h
      obtain ⟨hq, h⟩ := oi h
      obtain ⟨hq12, hq3⟩ := Bool.and_eq_true_iff.mp hq
      obtain ⟨hq1, hq2⟩ := Bool.and_eq_true_iff.mp hq12
      cases h
      rw [raiseOf_is e]
      exact exr_raise ok hh ((kind_of gk _).trans (beq_iff_eq.mp hq2)) (by rw [beq_iff_eq.mp hq1]; decide) (gk.glob _ _ (beq_iff_eq.mp hq3))
    | none =>
      rw [e] at h
      rcases xxN_is h with ⟨_, _, _, _, h1, h2, rfl⟩ | h
      · rw [AllP.append] at hP
        exact exr_cons ((sx_sound ok gk n).1 _ _ _ _ _ _ _ h1 hP.1) (hX _ _ _ _ _ h2 hP.2)
      · obtain ⟨i, hi, h⟩ := ob h
        obtain ⟨z, h1, h⟩ := ob h
        obtain ⟨d, ds1, Q, q1, rfl, h2, q2⟩ := xxD_is h hP
        rw [ifOf_is hi]
        exact exr_if ((pt_sound (V := V) ok gk n).1 _ _ _ h1 q1) (hX _ _ _ _ _ h2 q2)
theorem xx_sound {g : Cfg} (ok : c.Ok) (gk : CfgOk c g) (hh : c.A.handled = none) : ∀ n : Nat, RxOk c (xx g n)
  | 0 => fun _ _ _ _ _ h _ => no h
  | n + 1 => fun b ds V V' P h => xx_step ok gk hh (xx_sound ok gk hh n) b ds V V' P h
end
noncomputable def xxo (g : Cfg) (n : Nat) (b : List Stmt) (ds : Ds) (V : View) : Option (List PO × List Prop) := (xx g n b ds V).map fun z => (z.1.objs, z.2)
theorem xxo_ok {g : Cfg} {n : Nat} {b : List Stmt} {ds : Ds} {V : View} {objs : List PO} {P : List Prop} (h : xxo g n b ds V = some (objs, P)) : ∃ V', xx g n b ds V = some (V', P) ∧ V'.objs = objs := by
  obtain ⟨z, e1, e2⟩ := Option.map_eq_some_iff.mp h
  cases e2
  exact ⟨_, e1, rfl⟩
theorem spec_runX {W : Wd} {D : Nat} {f : Addr} {ps : List PV} {objs objs' : List PO} {loc : List (Str × PV)} {t : Tabs} {po : POrc W D} {eo : Orc W D} {n : Nat} {ds : Ds} {P : List Prop} {names : List Str}
    (hD : 1 ≤ D) (hd : defOk W.K f names = true) (ht : t.Ok W) (hn : loc.map (·.1) = names)
    (hbind : ∀ (T : List Addr) (ρ : List (Addr × Addr)) (s : Shared) (vs : List Value), Base W.K W.N s.heap → (∀ b ∈ T, W.N ≤ b) → IsL T ρ s.heap ps vs → ∃ binds, runPure W.K 30 (bindArgs (fdOf W.K f) ⟨vs, []⟩) = some binds ∧ binds.map (·.1) = names ∧ IsL T ρ s.heap (loc.map (·.2)) (binds.map (·.2)))
    (run : xxo (mkCfg (fdOf W.K f).scope t po eo) n (bodyOf (fdOf W.K f)) ds ⟨loc, objs⟩ = some (objs', P)) (hP : AllP P) : SpecX W (D + 1) (.ref f) ps objs objs' := by
  obtain ⟨h123, h4⟩ := Bool.and_eq_true_iff.mp hd
  obtain ⟨h12, h3⟩ := Bool.and_eq_true_iff.mp h123
  obtain ⟨V', run, ho⟩ := xxo_ok run
  refine call_stop (loc := loc) (defIs_of h12) (hn ▸ nodupB_ok h3) (fun x hx => ?_) (fun T ρ s vs B hT ia => ?_) fun c ok e room hs => ⟨_, xx_sound ok (mkCfg_ok ok e room hD hs ht) room.handled n _ _ _ _ _ run hP, ho⟩
  · exact beq_iff_eq.mp (List.all_eq_true.mp h4 x (hn ▸ hx))
  · obtain ⟨binds, a, b, c⟩ := hbind T ρ s vs B hT ia
    exact ⟨binds, fun M A E Q q => runPure_sound B.k a q, hn ▸ b, c⟩
theorem while_stop {c : Fc} {g : Cfg} (ok : c.Ok) (gk : CfgOk c g) {l : List Stmt} (hs : (splitW l).isSome = true) {n : Nat} {ds ds1 dsp : Ds} {V V1 : View} {P1 P2 P3 : List Prop} {b : Bool} {fl : PF} {objs : List PO}
    (h1 : xs g n (preW l) ds V = some (.next, ds1, V1, P1)) (q1 : AllP P1) (h2 : pt g n (testW l) V1 = some (b, P2)) (q2 : AllP P2) (hb : b = false) (h3 : xr g n (postW l) dsp V1 = some (fl, objs, P3)) (q3 : AllP P3) : ∃ V', ExOk c l V fl V' ∧ V'.objs = objs := by
  obtain ⟨ds', V', run, ho⟩ := xr_ok h3
  subst hb
  refine ⟨V', ?_, ho⟩
  rw [splitW_is hs]
  exact xs_app ok gk h1 q1 (ex_cons (sx_while (n := 0) (.stop ((pt_sound ok gk n).1 _ _ _ h2 q2))) ((sx_sound ok gk n).2 _ _ _ _ _ _ _ run q3))
theorem while_ret {c : Fc} {g : Cfg} (ok : c.Ok) (gk : CfgOk c g) {l : List Stmt} (hs : (splitW l).isSome = true) {n : Nat} {ds ds1 dsp : Ds} {V V1 : View} {P1 P2 P3 : List Prop} {b : Bool} {p : PV} {objs : List PO}
    (h1 : xs g n (preW l) ds V = some (.next, ds1, V1, P1)) (q1 : AllP P1) (h2 : pt g n (testW l) V1 = some (b, P2)) (q2 : AllP P2) (hb : b = true) (h3 : xr g n (bodyW l) dsp V1 = some (.ret p, objs, P3)) (q3 : AllP P3) : ∃ V', ExOk c l V (.ret p) V' ∧ V'.objs = objs := by
  obtain ⟨ds', V', run, ho⟩ := xr_ok h3
  subst hb
  refine ⟨V', ?_, ho⟩
  rw [splitW_is hs]
  exact xs_app ok gk h1 q1 (ex_stop (sx_while (n := 0) (.ret ((pt_sound ok gk n).1 _ _ _ h2 q2) ((sx_sound ok gk n).2 _ _ _ _ _ _ _ run q3))) (fun q => nomatch q))
end M10
section M11
noncomputable def instC (objs : List PO) (k : Nat) (C : Addr) : Prop := ∃ att, objs[k]? = some (.inst C att)
inductive ToksC (W : Wd) (D : Nat) (f : Value) (k : Nat) (C : Addr) : List PO → List PV → List PO → Prop
  | stop {objs objs' : List PO} : instC objs k C → SpecX W D f [.o k] objs objs' → ToksC W D f k C objs [] objs'
  | step {objs objs1 objs2 : List PO} {p : PV} {ps : List PV} : instC objs k C → Spec W D f [.o k] objs p objs1 → ToksC W D f k C objs1 ps objs2 → ToksC W D f k C objs (p :: ps) objs2
theorem own_next {M : Model} {A : Around} {E : Value → Shared → Prop} {s : Shared} {K : Frag} {x C f : Addr} {ox : Obj} {od : Option Obj} {Q : Option Value → Shared → Prop} (X : K.In s.heap) (I : InstAt s.heap x ox C od) (hs : findIn K (.ref C) "__next__" = some (some (.ref f))) (hf : isFn K (.ref f) = true)
    (h : wpAny M A (call (.ref f) [.ref x]) (fun v s' => Q (some v) s') (OwitStop M A Q E) s) : wpAny M A (pyNext (.ref x)) Q E s := by
  unfold pyNext
  refine wpAny_bind (wpAny_attempt (special_fn (name := "__next__") (args := []) X I hs (beq_iff_eq.mp hf) (wpAny_mono h (fun v s' hq => ?_) (fun e s' he => ?_))))
  · exact wpAny_pure hq
  · refine wpAny_bind (wpAny_mono he (fun b s₂ hb => ?_) fun _ _ z => z)
    cases b with
    | true => exact wpAny_pure hb
    | false => exact wpAny_throw hb
theorem inst_at {T : List Addr} {ρ : List (Addr × Addr)} {h : Heap} {k : Nat} {C a d : Addr} {att : List (Str × PV)} (x : ObjAt T ρ h k (.inst C att)) (e : ρ[k]? = some (a, d)) : ∃ od, InstAt h a ⟨.ref C, some d, .plain, #[]⟩ C od := by
  obtain ⟨a', dx, es, n, e', na, ea, ed, m⟩ := x
  rw [e] at e'; cases e'
  exact ⟨some (dictOf es n), ea, rfl, rfl, ed⟩
theorem stop_sub : isSubtype (.type "StopIteration") (.type "StopIteration") = pure true := by rw [isSubtype_type]; kernel_rfl
theorem list_loop {c : Fc} {f : Addr} {k : Nat} {C a d S : Addr} {D : Nat} {A : Around} {res : Value} (ok : c.Ok) (hA : c.A = A.in1) (room : Room c.A D) (hr : c.ρ[k]? = some (a, d)) (hST : S ∈ c.T) (hSm : S ∉ mutsOf c.ρ) (hs : findIn c.K (.ref C) "__next__" = some (some (.ref f))) (hf : isFn c.K (.ref f) = true) {R : Result → Shared → Prop} :
    ∀ {ps : List PV} {objs objs' : List PO}, ToksC c.toWd D (.ref f) k C objs ps objs' → ∀ (s : Shared) (acc : Array Value) (n : Nat) (done : List PV), done.length + ps.length ≤ 1000000 → Base c.K c.N s.heap → (∀ b ∈ c.T, ∃ o, s.heap.get? b = some o) → Frs c.N c.A s.heap → ObjsOk c.T c.ρ objs s.heap →
      s.heap.get? S = some { cls := .type "list", data := .seq acc n } → IsL c.T c.ρ s.heap done acc.toList →
      (∀ s' acc' n', St c.N (S :: mutsOf c.ρ) s s' → Base c.K c.N s'.heap → Frs c.N c.A s'.heap → ObjsOk c.T c.ρ objs' s'.heap → s'.heap.get? S = some { cls := .type "list", data := .seq acc' n' } → IsL c.T c.ρ s'.heap (done ++ ps) acc'.toList → R (.ok (.ret res)) s') →
      codeAny (model c.prog c.w) A (.builtin "list.extend.loop" ⟨[.ref S, .ref a, res], []⟩) R s := by
  intro ps objs objs' tk
  induction tk with
  | stop hi hx =>
    intro s acc n done hz B live frs O hS id hq
    obtain ⟨att, ho⟩ := hi
    obtain ⟨od, I⟩ := inst_at (O k _ ho) hr
    refine codeAny_builtin F.entry_extend_loop ?_
    rw [Around.under_plainId F.plain_extend_loop _]
    show wpAny _ A.in1 (pyNext (.ref a) >>= _) _ _ s
    rw [← hA]
    refine wpAny_bind (own_next B.k I hs hf (hx c ok rfl room s _ _ _ B live frs O (.cons (.o hr) .nil) fun s' e st B' F' O' hT => ?_))
    unfold OwitStop
    refine wpAny_isInstance hT stop_sub ?_
    rw [if_pos rfl]
    refine wpAny_pure (hq s' acc n (st.sub fun b hb => .tail _ hb) B' F' O' ?_ ?_)
    · exact st.keep.exact hSm hS (show Value.type "list" ≠ Value.type "frame" by decide) (show Value.type "list" ≠ Value.none by decide)
    · rw [List.append_nil]; exact id.keep (st.keep.sub fun b hb => ok.fx.mem b (mutsOf_sub b hb))
  | step hi hx _ ih =>
    rename_i objs objs1 objs2 p ps _
    intro s acc n done hz B live frs O hS id hq
    obtain ⟨att, ho⟩ := hi
    obtain ⟨od, I⟩ := inst_at (O k _ ho) hr
    refine codeAny_builtin F.entry_extend_loop ?_
    rw [Around.under_plainId F.plain_extend_loop _]
    show wpAny _ A.in1 (pyNext (.ref a) >>= _) _ _ s
    rw [← hA]
    refine wpAny_bind (own_next B.k I hs hf (hx c ok rfl room s _ _ _ B live frs O (.cons (.o hr) .nil) fun s1 v st B1 F1 O1 iv => ?_))
    have hS1 := st.keep.exact hSm hS (show Value.type "list" ≠ Value.type "frame" by decide) (show Value.type "list" ≠ Value.none by decide)
    have id1 := id.keep (st.keep.sub fun b hb => ok.fx.mem b (mutsOf_sub b hb))
    have hl := id1.length
    have hsz : acc.size ≤ 1000000 := by simp at hl hz; omega
    show wpAny _ _ (updateSeq S (·.push v) >>= _) _ _ _
    refine wpAny_bind ?_
    refine wpAny_updateSeq hS1 rfl ?_ (by rw [sizeLine_eq]; omega) (by show (acc.push v).size ≤ sizeLine + 1; rw [Array.size_push, sizeLine_eq]; omega)
    have hS2 := Heap.get?_update_self (Obj.mapSeq (·.push v)) hS1 rfl
    have sb : Heap.SameBut S s1.heap (s1.heap.update S (Obj.mapSeq (·.push v))) := Heap.SameBut.update ..
    have kS : Keep c.N [S] s1.heap (s1.heap.update S (Obj.mapSeq (·.push v))) := .sameBut sb hS2 (.head _)
    have kT : Keep c.N c.T s1.heap (s1.heap.update S (Obj.mapSeq (·.push v))) := .sameBut sb hS2 hST
    refine wpAny_pure ⟨plainId_quiet F.plain_extend_loop _, ?_⟩
    refine ih { s1 with heap := s1.heap.update S (Obj.mapSeq (·.push v)) } (acc.push v) _ (done ++ [p]) (by simp at hz ⊢; omega) (B1.keep (T := [S]) ok.lowK (fun b hb => by rcases List.mem_singleton.mp hb with rfl; exact ok.fx.low _ hST) ok.lo kS) (fun b hb => let ⟨o, e⟩ := live b hb; let ⟨o', e'⟩ := st.keep.there b o e; kS.there b o' e')
      (F1.one kS (.inl ⟨_, hS1, show Value.type "list" ≠ Value.type "frame" by decide⟩)) (fun j po e => (O1 j po e).keep kS (fun a' d' e' z => ?_) (fun b hb => by rcases List.mem_singleton.mp hb with rfl; exact hST) kT) hS2 ?_ fun s' acc' n' st' B' F' O' hS' i' => ?_
    · rcases List.mem_singleton.mp z with rfl
      exact hSm (List.mem_map.mpr ⟨_, List.mem_of_getElem? e', rfl⟩)
    · rw [Array.toList_push]
      exact (id1.keep kT).append (.cons (iv.keep kT) .nil)
    · refine hq s' acc' n' (St.trans (St.trans (st.sub fun b hb => .tail _ hb) (s'' := { s1 with heap := s1.heap.update S (Obj.mapSeq (·.push v)) }) ⟨kS.sub fun b hb => ?_, .refl _, rfl⟩) st') B' F' O' hS' (by simpa using i')
      rcases List.mem_singleton.mp hb with rfl; exact .head _
noncomputable def ownIter (K : Frag) (C fi fn : Addr) : Bool := findIn K (.ref C) "__iter__" == some (some (.ref fi)) && isFn K (.ref fi) && findIn K (.ref C) "__next__" == some (some (.ref fn)) && isFn K (.ref fn) && findIn K (.ref C) "__len__" == some none && findIn K (.ref C) "__length_hint__" == some none
theorem own_iter {M : Model} {A : Around} {E : Value → Shared → Prop} {s : Shared} {K : Frag} {x C f : Addr} {ox : Obj} {od : Option Obj} {Q : Value → Shared → Prop} (X : K.In s.heap) (I : InstAt s.heap x ox C od) (hs : findIn K (.ref C) "__iter__" = some (some (.ref f))) (hf : isFn K (.ref f) = true)
    (h : wpAny M A (call (.ref f) [.ref x]) (OwitIt M A Q E) E s) : wpAny M A (pyIter (.ref x)) Q E s := by
  have fin : wpAny M A (call (.ref f) [.ref x] >>= fun v => pure (some v)) (fun r s' => ∃ v, r = some v ∧ OwitIt M A Q E v s') E s :=
    wpAny_bind (wpAny_mono h (fun v s' h' => wpAny_pure ⟨v, rfl, h'⟩) fun _ _ z => z)
  have one : ∀ refuse : Sem Value, wpAny M A (callSpecialIfBoundUnlessNone? (.ref x) "__iter__" refuse) (fun r s' => ∃ v, r = some v ∧ OwitIt M A Q E v s') E s := by
    intro refuse
    simp only [callSpecialIfBoundUnlessNone?, bindSpecialIfBound?]
    refine wpAny_holding (wpAny_bind (wpAny_bind (wpAny_bind (I.type.here ((looks_findIn X hs).here ?_)))))
    refine wpAny_bind (wpAny_askSetting (wpAny_ite ?_))
    have fin2 : wpAny M A (if (Value.ref f == Value.none) = true then (refuse >>= fun v => pure (some v)) else (call (.ref f) [.ref x] >>= fun v => pure (some v))) (fun r s' => ∃ v, r = some v ∧ OwitIt M A Q E v s') E s := by
      rw [if_neg (show ¬ ((Value.ref f == Value.none) = true) from Bool.false_ne_true)]
      exact fin
    split
    · exact wpAny_bind ((bind_fn X _ (beq_iff_eq.mp hf)).here (wpAny_pure (by exact fin2)))
    · exact wpAny_tryCatch (wpAny_bind ((bind_fn X _ (beq_iff_eq.mp hf)).here (wpAny_pure (by exact fin2))))
  unfold pyIter
  refine wpAny_bind (wpAny_bind (I.type.here ((looks_findIn X hs).here ?_)))
  show wpAny M A (callSpecialIfBoundUnlessNone? (.ref x) "__iter__" _ >>= _) Q E s
  refine wpAny_bind (wpAny_mono (one _) (fun r s' hr => ?_) fun _ _ z => z)
  obtain ⟨v, rfl, hv⟩ := hr
  refine wpAny_bind (wpAny_mono hv (fun r s₂ hr => ?_) fun _ _ z => z)
  cases r with
  | none => exact hr.elim
  | some g => exact wpAny_pure hr
theorem own_it {M : Model} {A : Around} {E : Value → Shared → Prop} {s : Shared} {K : Frag} {x C : Addr} {ox : Obj} {od : Option Obj} {Q : Value → Shared → Prop} {g : Value} (X : K.In s.heap) (I : InstAt s.heap x ox C od) (hs : findIn K (.ref C) "__next__" = some (some g)) (h : Q (.ref x) s) : OwitIt M A Q E (.ref x) s := by
  unfold OwitIt
  exact wpAny_bind (I.type.here ((looks_findIn X hs).here h))
structure WrS (c : Fc) (objs : List PO) (h : Heap) : Prop where
  base : Base c.K c.N h
  live : ∀ b ∈ c.T, ∃ o, h.get? b = some o
  frs : Frs c.N c.A h
  objs : ObjsOk c.T c.ρ objs h
theorem list_wr {c : Fc} {objs : List PO} {S : Addr} {h h' : Heap} {f : Array Value → Array Value} {ob : Obj} {acc : Array Value} {n : Nat} (ok : c.Ok) (hST : S ∈ c.T) (hSm : S ∉ mutsOf c.ρ) (e2 : h' = h.update S (Obj.mapSeq f)) (eo : h.get? S = some ob) (ec : ob.cls = .type "list") (e3 : h'.get? S = some { cls := .type "list", data := .seq acc n }) (x : WrS c objs h) :
    Keep c.N [S] h h' ∧ WrS c objs h' := by
  subst e2
  have sb : Heap.SameBut S h (h.update S (Obj.mapSeq f)) := Heap.SameBut.update ..
  have kS : Keep c.N [S] h (h.update S (Obj.mapSeq f)) := .sameBut sb e3 (.head _)
  have kT : Keep c.N c.T h (h.update S (Obj.mapSeq f)) := .sameBut sb e3 hST
  have one : ∀ b ∈ [S], b ∈ c.T := fun b hb => by rcases List.mem_singleton.mp hb with rfl; exact hST
  refine ⟨kS, x.base.keep (T := [S]) ok.lowK (fun b hb => ok.fx.low _ (one b hb)) ok.lo kS, fun b hb => let ⟨o, e⟩ := x.live b hb; kS.there b o e, x.frs.one kS (.inl ⟨_, eo, by rw [ec]; decide⟩), fun j po e => (x.objs j po e).keep kS (fun a' d' e' z => ?_) one kT⟩
  rcases List.mem_singleton.mp z with rfl
  exact hSm (List.mem_map.mpr ⟨_, List.mem_of_getElem? e', rfl⟩)
theorem list_own {W : Wd} {D : Nat} {fi fn C : Addr} {k : Nat} {objs objs' : List PO} {ps : List PV} (hz : ps.length ≤ 1000000) (hc : ownIter W.K C fi fn = true) (hi : Spec W D (.ref fi) [.o k] objs (.o k) objs) (tk : ToksC W D (.ref fn) k C objs ps objs') (hC : instC objs k C) :
    Spec W (D + 1) (.type "list") [.o k] objs (.l ps) objs' := by
  rintro c ok rfl room s vs Q E B live frs O ia hq
  unfold ownIter at hc
  simp only [Bool.and_eq_true] at hc
  obtain ⟨⟨⟨⟨⟨q1, q2⟩, q3⟩, q4⟩, q5⟩, q6⟩ := hc
  obtain ⟨v, rfl, i⟩ := isL1 ia
  cases i with
  | o hr =>
  rename_i a d
  obtain ⟨att, ho⟩ := hC
  obtain ⟨od, I⟩ := inst_at (O k _ ho) hr
  have fresh : s.heap.get? s.heap.objs.size = none := fresh_get _
  have NL : c.N ≤ s.heap.objs.size := by
    obtain ⟨o, e⟩ := live c.L (ok.fx.mem _ (.head _))
    exact Nat.le_of_lt (Nat.lt_of_le_of_lt (ok.fx.low c.L (ok.fx.mem _ (.head _))) (Heap.lt_size e))
  have nT : s.heap.objs.size ∉ c.T := fun hb => by obtain ⟨o, e⟩ := live _ hb; rw [fresh] at e; cases e
  refine callType_codes (Q₁ := fun obj s₁ => obj = .ref s.heap.objs.size ∧ s₁ = { s with heap := s.heap.push { cls := .type "list", data := .seq #[] } }) F.called_list (F.typeCall_list_1 _) F.entry_list_init (code_list_new _ ⟨rfl, rfl⟩) fun obj s₁ h₁ => ?_
  obtain ⟨rfl, rfl⟩ := h₁
  have hS : (s.heap.push { cls := .type "list", data := .seq #[] }).get? s.heap.objs.size = some { cls := .type "list", data := .seq #[] } := Heap.get?_push_size _ rfl
  refine ⟨⟨_, hS, rfl⟩, F.args_list_init_2 _ _, ?_⟩
  generalize eS : s.heap.objs.size = S at *
  have up : ∀ b o, s.heap.get? b = some o → (s.heap.push { cls := .type "list", data := .seq #[] }).get? b = some o := fun b o e => Heap.get?_push_of_some _ e
  generalize s.heap.push { cls := .type "list", data := .seq #[] } = hp at *
  have kp : Keep c.N [] s.heap hp := .of_all up
  -- the frame with the list among what may change
  let c' : Fc := { c with A := c.A.in1.in1, T := S :: c.T }
  have ok' : c'.Ok := ⟨⟨fun b hb => .tail _ (ok.fx.mem b hb), ok.fx.nodup, fun b hb => by
    rcases List.mem_cons.mp hb with rfl | hb
    · exact NL
    · exact ok.fx.low b hb⟩, ok.kind, ok.loc, ok.glb, ok.blt, ok.lowK, ok.lo⟩
  have room' : Room c'.A D := ⟨rdD room.depth, ru (k := 2) (by decide) room.units, room.handled⟩
  have hSm : S ∉ mutsOf c'.ρ := fun hb => nT (ok.fx.mem _ (mutsOf_sub _ hb))
  have live1 : ∀ b ∈ c'.T, ∃ o, hp.get? b = some o := fun b hb => by
    rcases List.mem_cons.mp hb with rfl | hb
    · exact ⟨_, hS⟩
    · obtain ⟨o, e⟩ := live b hb; exact ⟨o, up b o e⟩
  have O1 : ObjsOk c'.T c'.ρ objs hp := fun j po e => ((O j po e).more fresh).keep kp (fun _ _ _ z => nomatch z) (fun _ z => nomatch z) kp.all
  have B1 : Base c.K c.N hp := B.keep (T := []) ok.lowK (fun _ h => nomatch h) ok.lo kp
  have F1 : Frs c.N c'.A hp := frs.keep kp
  show wpAny _ c.A.in1.in1 (do let old ← Builtin.List.listItems (.ref S); Builtin.List.listUpdate (.ref S) (fun _ => #[]); letGo old.toList.reverse; Builtin.List.listExtendWith (.ref S) (.ref a) .none) _ _ { s with heap := hp }
  refine wpAny_bind ?_
  unfold Builtin.List.listItems
  refine wpAny_bind (wpAny_seqItems hS rfl (wpAny_pure ?_))
  show wpAny _ c.A.in1.in1 (updateSeq S (fun _ => #[]) >>= fun _ => letGo (#[] : Array Value).toList.reverse >>= fun _ => Builtin.List.listExtendWith (.ref S) (.ref a) .none) _ _ { s with heap := hp }
  refine wpAny_bind (wpAny_updateSeq hS rfl ?_)
  have hS2 := Heap.get?_update_self (Obj.mapSeq (fun _ => (#[] : Array Value))) hS rfl
  obtain ⟨k2, B2, live2, F2, O2⟩ := list_wr (c := c') ok' (.head _) hSm rfl hS rfl hS2 ⟨B1, live1, F1, O1⟩
  generalize hp.update S (Obj.mapSeq (fun _ => (#[] : Array Value))) = h2 at *
  refine wpAny_bind (wpAny_letGo ?_)
  unfold Builtin.List.listExtendWith
  obtain ⟨od2, I2⟩ := inst_at (O2 k _ ho) hr
  refine wpAny_bind (I2.type.here ?_)
  have hSa : S ≠ a := fun q => by
    obtain ⟨a', dx, es, n, e', na, ea, ed, m⟩ := O2 k _ ho
    rw [hr] at e'; cases e'
    exact na (q ▸ .head _)
  have e1 : Builtin.List.listSameRef (.ref S) (.ref a) = false := by simp [Builtin.List.listSameRef, hSa]
  have e2 : (Value.ref C == Value.type "list") = false := rfl
  have e3 : (Value.ref C == Value.type "tuple") = false := rfl
  simp only [e1, e2, e3, Bool.or_false, Bool.false_eq_true, if_false]
  refine wpAny_bind (own_iter B2.k I2 (beq_iff_eq.mp q1) q2 ?_)
  refine hi c' ok' rfl room' { s with heap := h2 } _ _ _ B2 live2 F2 O2 (.cons (.o hr) .nil) fun s3 v3 st3 B3 F3 O3 i3 => ?_
  cases i3 with
  | o hr3 =>
  rw [hr] at hr3; cases hr3
  obtain ⟨od3, I3⟩ := inst_at (O3 k _ ho) hr
  have hS3 : s3.heap.get? S = _ := st3.keep.exact hSm hS2 (show Value.type "list" ≠ Value.type "frame" by decide) (show Value.type "list" ≠ Value.none by decide)
  have live3 : ∀ b ∈ c'.T, ∃ o, s3.heap.get? b = some o := fun b hb => let ⟨o, e⟩ := live2 b hb; st3.keep.there b o e
  refine own_it B3.k I3 (beq_iff_eq.mp q3) ?_
  refine wpAny_bind (wpAny_holding ?_)
  unfold Builtin.List.listLengthHint
  refine wpAny_bind (wpAny_bind (I3.type.here ((looks_findIn B3.k (beq_iff_eq.mp q5)).here ?_)))
  show wpAny _ _ (specialOf (Value.ref a) (Str.ofString "__length_hint__") >>= _) _ _ _
  refine wpAny_bind (wpAny_bind (I3.type.here ((looks_findIn B3.k (beq_iff_eq.mp q6)).here ?_)))
  refine wpAny_pure ?_
  show wpAny _ _ (rule "list.extend.makes-room" >>= fun _ => Builtin.List.listTouch (.ref S) >>= fun _ => again (.builtin "list.extend.loop" ⟨[.ref S, .ref a, .none], []⟩)) _ _ _
  refine wpAny_bind (wpAny_rule ?_)
  refine wpAny_bind ?_
  show wpAny _ _ (updateSeq S (·.push .none) >>= fun _ => updateSeq S (·.pop)) _ _ _
  refine wpAny_bind (wpAny_updateSeq hS3 rfl ?_)
  have hS4 := Heap.get?_update_self (Obj.mapSeq (·.push Value.none)) hS3 rfl
  obtain ⟨k4, W4⟩ := list_wr (c := c') ok' (.head _) hSm rfl hS3 rfl hS4 ⟨B3, live3, F3, O3⟩
  refine wpAny_updateSeq (hz := by seq_fits) hS4 rfl ?_
  have hS5 := Heap.get?_update_self (Obj.mapSeq (·.pop)) hS4 rfl
  obtain ⟨k5, B5, live5, F5, O5⟩ := list_wr (c := c') ok' (.head _) hSm rfl hS4 rfl hS5 W4
  refine wpAny_pure ⟨plainId_quiet F.plain_extend_loop _, ?_⟩
  refine list_loop (c := c') (A := c.A.in1) ok' rfl room' hr (.head _) hSm (beq_iff_eq.mp q3) q4 tk _ _ _ [] (by simpa using hz) B5 live5 F5 O5 hS5 .nil fun s' acc' n' st' B' F' O' hS' i' => ?_
  refine ⟨rfl, ?_⟩
  have kAll : Keep c.N (S :: mutsOf c.ρ) s.heap s'.heap := (((((kp.all.trans (k2.sub (fun b hb => by rcases List.mem_singleton.mp hb with rfl; exact .head _))).trans (st3.keep.sub fun b hb => .tail _ hb)).trans (k4.sub (fun b hb => by rcases List.mem_singleton.mp hb with rfl; exact .head _))).trans (k5.sub (fun b hb => by rcases List.mem_singleton.mp hb with rfl; exact .head _)))).trans st'.keep
  refine hq s' _ ⟨⟨fun b o nb e => kAll.off b o (fun z => ?_) e, kAll.there⟩, st3.gens.trans st'.gens, st'.os.trans st3.os⟩ B' F' (fun j po e => (O' j po e).less) ?_
  · rcases List.mem_cons.mp z with rfl | z
    · rw [fresh] at e; cases e
    · exact nb z
  · exact .l nT hS' rfl rfl (by simpa using i'.less)
end M11
section M12
noncomputable abbrev Fc.at (c : Fc) (T : List Addr) (ρ : List (Addr × Addr)) : Fc := { c with T := T, ρ := ρ }
structure Grow (c : Fc) (s : Shared) (T : List Addr) (ρ : List (Addr × Addr)) : Prop where
  ok : (c.at T ρ).Ok
  sub : ∀ b ∈ c.T, b ∈ T
  fresh : ∀ b ∈ T, b ∈ c.T ∨ s.heap.get? b = none
  ext : ∃ ν, ρ = c.ρ ++ ν ∧ ∀ p ∈ ν, s.heap.get? p.2 = none
theorem Grow.refl {c : Fc} {s : Shared} (ok : c.Ok) : Grow c s c.T c.ρ := ⟨ok, fun _ h => h, fun _ h => .inl h, [], by simp, fun _ h => nomatch h⟩
theorem Grow.trans {c : Fc} {s s1 : Shared} {T T' : List Addr} {ρ ρ' : List (Addr × Addr)} {F : List Addr} {N : Nat} (g : Grow c s T ρ) (k : Keep N F s.heap s1.heap) (g' : Grow (c.at T ρ) s1 T' ρ') : Grow c s T' ρ' := by
  have back : ∀ b, s1.heap.get? b = none → s.heap.get? b = none := fun b e => by
    cases q : s.heap.get? b with
    | none => rfl
    | some o => obtain ⟨o', e'⟩ := k.there b o q; rw [e] at e'; cases e'
  refine ⟨g'.ok, fun b hb => g'.sub b (g.sub b hb), fun b hb => ?_, ?_⟩
  · rcases g'.fresh b hb with h | h
    · exact g.fresh b h
    · exact .inr (back b h)
  · obtain ⟨ν, rfl, h1⟩ := g.ext
    obtain ⟨ν', rfl, h2⟩ := g'.ext
    refine ⟨ν ++ ν', by simp, fun p hp => ?_⟩
    rcases List.mem_append.mp hp with hp | hp
    · exact h1 p hp
    · exact back _ (h2 p hp)
theorem Grow.keep {c : Fc} {s s1 s2 : Shared} {T : List Addr} {ρ : List (Addr × Addr)} (g : Grow c s T ρ) (x : St c.N c.muts s s1) (y : St c.N (muts c.L ρ) s1 s2) : St c.N c.muts s s2 := by
  obtain ⟨ν, rfl, h1⟩ := g.ext
  refine ⟨⟨fun b o nb e => ?_, fun b o e => let ⟨o', e'⟩ := x.keep.there b o e; y.keep.there b o' e'⟩, x.gens.trans y.gens, y.os.trans x.os⟩
  have nb2 : b ∉ muts c.L (c.ρ ++ ν) := fun z => by
    rcases List.mem_cons.mp z with rfl | z
    · exact nb (.head _)
    · rw [List.map_append] at z
      rcases List.mem_append.mp z with z | z
      · exact nb (.tail _ z)
      · obtain ⟨p, hp, rfl⟩ := List.mem_map.mp z
        rw [h1 p hp] at e; cases e
  -- as Keep.trans, for this one place
  have one : Keep c.N (muts c.L (c.ρ ++ ν)) s.heap s2.heap := (x.keep.sub fun b hb => by
    rcases List.mem_cons.mp hb with rfl | hb
    · exact .head _
    · exact .tail _ (by rw [List.map_append]; exact List.mem_append.mpr (.inl hb))).trans y.keep
  exact one.off b o nb2 e
theorem to_grow {T T' : List Addr} {ρ ν : List (Addr × Addr)} {h : Heap} (hf : ∀ b ∈ T', b ∈ T ∨ h.get? b = none) : IsTo T T' ρ (ρ ++ ν) h h := ⟨fun a ob n e _ _ => ⟨fun z => by rcases hf _ z with q | q; exact n q; rw [q] at e; exact no e, e⟩, fun _ _ _ e => by rw [List.getElem?_append_left (List.getElem?_eq_some_iff.mp e).1]; exact e⟩
theorem Is.grow {T T' : List Addr} {ρ ν : List (Addr × Addr)} {h : Heap} (hf : ∀ b ∈ T', b ∈ T ∨ h.get? b = none) {p : PV} {v : Value} (i : Is T ρ h p v) : Is T' (ρ ++ ν) h p v := i.to (to_grow hf)
theorem IsL.grow {T T' : List Addr} {ρ ν : List (Addr × Addr)} {h : Heap} (hf : ∀ b ∈ T', b ∈ T ∨ h.get? b = none) {p : List PV} {v : List Value} (i : IsL T ρ h p v) : IsL T' (ρ ++ ν) h p v := i.to (to_grow hf)
set_option backward.match.sparseCases false in
mutual
noncomputable def PV.lt (n : Nat) : PV → Bool
  | .o k => decide (k < n)
  | .l xs => PV.ltL n xs
  | .r xs => PV.ltL n xs
  | .t xs => PV.ltL n xs
  | _ => true
noncomputable def PV.ltL (n : Nat) : List PV → Bool
  | [] => true
  | p :: rest => p.lt n && PV.ltL n rest
end
theorem Is.back {T T' : List Addr} {ρ ν : List (Addr × Addr)} {h : Heap} (hs : ∀ b ∈ T, b ∈ T') {p : PV} {v : Value} (i : Is T' (ρ ++ ν) h p v) : p.lt ρ.length = true → Is T ρ h p v :=
  Is.rec (motive_1 := fun p v _ => p.lt ρ.length = true → Is T ρ h p v) (motive_2 := fun ps vs _ => PV.ltL ρ.length ps = true → IsL T ρ h ps vs) (fun x _ => .v x) (fun x t _ => .s x t) (fun x t _ => .i x t) (fun e q => .o (by rw [List.getElem?_append_left (of_decide_eq_true q)] at e; exact e)) (fun n e c d _ r q => .l (fun z => n (hs _ z)) e c d (r q)) (fun n e c d _ r q => .r (fun z => n (hs _ z)) e c d (r q))
    (fun n e c d _ r q => .t (fun z => n (hs _ z)) e c d (r q)) (fun _ => .any) (fun n e f n' e' g _ => .fn (fun z => n (hs _ z)) e f (fun z => n' (hs _ z)) e' g) (fun _ => .nil) (fun _ _ a b q => .cons (a (Bool.and_eq_true_iff.mp q).1) (b (Bool.and_eq_true_iff.mp q).2)) i
theorem IsL.back {T T' : List Addr} {ρ ν : List (Addr × Addr)} {h : Heap} (hs : ∀ b ∈ T, b ∈ T') {p : List PV} {v : List Value} (i : IsL T' (ρ ++ ν) h p v) : PV.ltL ρ.length p = true → IsL T ρ h p v :=
  IsL.ind (M := fun p v => PV.ltL ρ.length p = true → IsL T ρ h p v) (fun _ => .nil) (fun a _ b q => .cons (Is.back hs a (Bool.and_eq_true_iff.mp q).1) (b (Bool.and_eq_true_iff.mp q).2)) i
theorem ObjAt.grow {T T' : List Addr} {ρ ν : List (Addr × Addr)} {h : Heap} {k : Nat} {po : PO} (hf : ∀ b ∈ T', b ∈ T ∨ h.get? b = none) (x : ObjAt T ρ h k po) : ObjAt T' (ρ ++ ν) h k po := x.to (to_grow hf) fun _ _ _ _ e _ _ => e
noncomputable def EvG (c : Fc) (e : Expr) (V : View) (p : PV) (V' : View) : Prop :=
  ∀ (s : Shared) (Q E : Value → Shared → Prop), Inv c V s → V.objs.length = c.ρ.length → (∀ s' v T ρ, Grow c s T ρ → V'.objs.length = ρ.length → Inv (c.at T ρ) V' s' → St c.N c.muts s s' → Is T ρ s'.heap p v → Q v s') → wpAny c.M c.A (eval e c.env) Q E s
noncomputable def SxG (c : Fc) (st : Stmt) (V : View) (f : PF) (V' : View) : Prop :=
  ∀ (s : Shared) (Q : Flow → Shared → Prop) (E : Value → Shared → Prop), Inv c V s → V.objs.length = c.ρ.length → (∀ s' fl T ρ, Grow c s T ρ → V'.objs.length = ρ.length → Inv (c.at T ρ) V' s' → St c.N c.muts s s' → FlIs (c.at T ρ) s'.heap f fl → Q fl s') → wpAny c.M c.A (exec st c.env) Q E s
noncomputable def ExG (c : Fc) (b : List Stmt) (V : View) (f : PF) (V' : View) : Prop :=
  ∀ (s : Shared) (Q : Flow → Shared → Prop) (E : Value → Shared → Prop), Inv c V s → V.objs.length = c.ρ.length → (∀ s' fl T ρ, Grow c s T ρ → V'.objs.length = ρ.length → Inv (c.at T ρ) V' s' → St c.N c.muts s s' → FlIs (c.at T ρ) s'.heap f fl → Q fl s') → wpAny c.M c.A (execs b c.env) Q E s
section
variable {c : Fc} {V V1 V2 V' : View} {p : PV} {f : PF} {b : Bool}
theorem EvOk.g {e : Expr} (ok : c.Ok) (h : EvOk c e V p V') (hl : V'.objs.length = V.objs.length) : EvG c e V p V' := fun s Q E I l k => h s Q E I fun s' v I' t i => k s' v _ _ (.refl ok) (hl.trans l) I' t i
theorem SxOk.g {st : Stmt} (ok : c.Ok) (h : SxOk c st V f V') (hl : V'.objs.length = V.objs.length) : SxG c st V f V' := fun s Q E I l k => h s Q E I fun s' v I' t i => k s' v _ _ (.refl ok) (hl.trans l) I' t i
theorem ExOk.g {b : List Stmt} (ok : c.Ok) (h : ExOk c b V f V') (hl : V'.objs.length = V.objs.length) : ExG c b V f V' := fun s Q E I l k => h s Q E I fun s' v I' t i => k s' v _ _ (.refl ok) (hl.trans l) I' t i
theorem exg_cons {st : Stmt} {r : List Stmt} (h1 : SxG c st V .next V1) (h2 : ∀ T ρ, (c.at T ρ).Ok → ExG (c.at T ρ) r V1 f V2) : ExG c (st :: r) V f V2 := by
  intro s Q E I l k
  refine wpAny_execs_cons (h1 s _ E I l fun s1 fl T ρ g l1 I1 t1 hf => ?_)
  cases hf
  exact h2 T ρ g.ok s1 Q E I1 l1 fun s2 fl T' ρ' g' l2 I2 t2 hf => k s2 fl T' ρ' (g.trans t1.keep g') l2 I2 (g.keep t1 t2) hf
theorem exg_stop {st : Stmt} {r : List Stmt} (h1 : SxG c st V f V1) (hn : f ≠ .next) : ExG c (st :: r) V f V1 := by
  intro s Q E I l k
  refine wpAny_execs_cons (h1 s _ E I l fun s1 fl T ρ g l1 I1 t1 hf => ?_)
  have := k s1 fl T ρ g l1 I1 t1 hf
  cases f with
  | next => exact absurd rfl hn
  | brk => cases hf; exact this
  | cont => cases hf; exact this
  | ret p => obtain ⟨v, rfl, _⟩ := hf; exact this
theorem sxg_if {t : Expr} {bd el : List Stmt} {pos : Pos} (ht : TvOk c t V b V) (h : ExG c (if b then bd else el) V f V2) : SxG c (.If t bd el pos) V f V2 := by
  intro s Q E I l k
  refine wpAny_If (ht s _ E I fun s1 I1 t1 => ?_)
  cases b <;> exact h s1 Q E I1 l fun s2 fl T ρ g l2 I2 t2 hf => k s2 fl T ρ ⟨g.ok, g.sub, fun x hx => (g.fresh x hx).imp id fun e => (by cases q : s.heap.get? x with | none => rfl | some o => obtain ⟨o', e'⟩ := t1.keep.there x o q; rw [e] at e'; cases e'), let ⟨ν, e1, e2⟩ := g.ext; ⟨ν, e1, fun p hp => (by have e := e2 p hp; cases q : s.heap.get? p.2 with | none => rfl | some o => obtain ⟨o', e'⟩ := t1.keep.there _ o q; rw [e] at e'; cases e')⟩⟩ l2 I2 (t1.trans t2) hf
theorem sxg_assign {x : Str} {e : Expr} {pos' pos : Pos} (hk : c.env.kindOf x = some .local) (he : EvG c e V p V1) (hc : notComp e = true) : SxG c (.Assign [.Name x pos'] e pos) V .next { V1 with loc := put x p V1.loc } := by
  intro s Q E I l h
  refine wpAny_Assign_Name (he s _ E I l fun s1 v T ρ g l1 I1 t1 i1 => ?_) (swaps_no hc)
  exact store_name (c := c.at T ρ) g.ok hk I1 i1 fun s2 I2 t2 => h s2 _ T ρ g l1 I2 (g.keep t1 t2) rfl
theorem xs_then {g : Cfg} (ok : c.Ok) (gk : CfgOk c g) {rest : List Stmt} {Q : Flow → Shared → Prop} {E : Value → Shared → Prop} : ∀ {n : Nat} {pre : List Stmt} {ds ds' : Ds} {V V1 : View} {P : List Prop}, xs g n pre ds V = some (.next, ds', V1, P) → AllP P → ∀ s, Inv c V s → (∀ s', Inv c V1 s' → St c.N c.muts s s' → wpAny c.M c.A (execs rest c.env) Q E s') → wpAny c.M c.A (execs (pre ++ rest) c.env) Q E s
  | 0, _, _, _, _, _, _, h, _, _, _, _ => no h
  | n + 1, [], _, _, _, _, _, h, _, s, I, hr => by cases h; exact hr s I (.refl s)
  | n + 1, st :: r, ds, ds', V, V1, P, h, hP, s, I, hr => by
    obtain ⟨ds1, V0, P1, P2, h1, h2, rfl⟩ := xs_next h
    rw [AllP.append] at hP
    refine wpAny_execs_cons ((sx_sound ok gk n).1 _ _ _ _ _ _ _ h1 hP.1 s _ E I fun s1 fl I1 t1 hf => ?_)
    cases hf
    exact xs_then ok gk h2 hP.2 s1 I1 fun s2 I2 t2 => hr s2 I2 (t1.trans t2)
theorem Grow.from {s s1 : Shared} {T : List Addr} {ρ : List (Addr × Addr)} {F : List Addr} {N : Nat} (k : Keep N F s.heap s1.heap) (g : Grow c s1 T ρ) : Grow c s T ρ := by
  have back : ∀ b, s1.heap.get? b = none → s.heap.get? b = none := fun b e => by
    cases q : s.heap.get? b with
    | none => rfl
    | some o => obtain ⟨o', e'⟩ := k.there b o q; rw [e] at e'; cases e'
  obtain ⟨ν, e1, e2⟩ := g.ext
  exact ⟨g.ok, g.sub, fun x hx => (g.fresh x hx).imp id (back x), ν, e1, fun p hp => back _ (e2 p hp)⟩
theorem xg_app {g : Cfg} (ok : c.Ok) (gk : CfgOk c g) {rest : List Stmt} {n : Nat} {pre : List Stmt} {ds ds' : Ds} {P : List Prop} (h : xs g n pre ds V = some (.next, ds', V1, P)) (hP : AllP P) (hl : V1.objs.length = V.objs.length) (hr : ExG c rest V1 f V2) : ExG c (pre ++ rest) V f V2 := by
  intro s Q E I l k
  refine xs_then ok gk h hP s I fun s1 I1 t1 => ?_
  exact hr s1 Q E I1 (hl.trans l) fun s2 fl T ρ g l2 I2 t2 hf => k s2 fl T ρ (g.from t1.keep) l2 I2 (t1.trans t2) hf
end
end M12
section M13
section
variable {c : Fc} {V V1 V2 V' : View} {p : PV} {f : PF}
theorem Inv.size {s : Shared} (ok : c.Ok) (I : Inv c V s) : c.N ≤ s.heap.objs.size := by
  obtain ⟨o, e⟩ := I.live c.L (ok.fx.mem _ (.head _))
  exact Nat.le_of_lt (Nat.lt_of_le_of_lt (ok.fx.low c.L (ok.fx.mem _ (.head _))) (Heap.lt_size e))
theorem grow_one {s : Shared} {a d : Addr} (ok : c.Ok) (I : Inv c V s) (fd : s.heap.get? d = none) (hN : c.N ≤ d) : Grow c s (d :: c.T) (c.ρ ++ [(a, d)]) := by
  have nT : d ∉ c.T := fun hb => by obtain ⟨o, e⟩ := I.live _ hb; rw [fd] at e; cases e
  refine ⟨⟨⟨fun b hb => ?_, ?_, fun b hb => ?_⟩, ok.kind, ok.loc, ok.glb, ok.blt, ok.lowK, ok.lo⟩, fun b hb => .tail _ hb, fun b hb => ?_, [(a, d)], rfl, fun p hp => by rcases List.mem_singleton.mp hp with rfl; exact fd⟩
  · have hb : b ∈ c.L :: (c.ρ ++ [(a, d)]).map (·.2) := hb
    rw [List.map_append] at hb
    rcases List.mem_cons.mp hb with rfl | hb
    · exact .tail _ (ok.fx.mem _ (.head _))
    · rcases List.mem_append.mp hb with hb | hb
      · exact .tail _ (ok.fx.mem _ (.tail _ hb))
      · rcases List.mem_singleton.mp hb with rfl; exact .head _
  · show (c.L :: (c.ρ ++ [(a, d)]).map (·.2)).Nodup
    rw [List.map_append, ← List.cons_append]
    refine List.nodup_append.mpr ⟨ok.fx.nodup, by simp, fun x hx y hy => ?_⟩
    rcases List.mem_singleton.mp hy with rfl
    intro q; subst q
    exact nT (ok.fx.mem _ hx)
  · rcases List.mem_cons.mp hb with rfl | hb
    · exact hN
    · exact ok.fx.low b hb
  · rcases List.mem_cons.mp hb with rfl | hb
    · exact .inr fd
    · exact .inl hb
theorem Inv.grow {s s' : Shared} {T : List Addr} {ρ : List (Addr × Addr)} {new : List PO} (ok : c.Ok) (g : Grow c s T ρ) (I : Inv c V s) (k : Keep c.N [] s.heap s'.heap) (live : ∀ b ∈ T, ∃ o, s'.heap.get? b = some o)
    (hl : V.objs.length = c.ρ.length) (hn : ∀ j po, new[j]? = some po → ObjAt T ρ s'.heap (c.ρ.length + j) po) : Inv (c.at T ρ) ⟨V.loc, V.objs ++ new⟩ s' := by
  obtain ⟨ν, rfl, e2⟩ := g.ext
  obtain ⟨⟨m, hn', hl'⟩, ho⟩ := I.rep
  refine ⟨⟨⟨m, k.frame (fun z => nomatch z) hn', fun x p e => ?_⟩, fun j po e => ?_⟩, I.base.keep (T := []) ok.lowK (fun _ h => nomatch h) ok.lo k, live, I.frs.keep k⟩
  · obtain ⟨v, e1, e3⟩ := hl' x p e
    exact ⟨v, e1, (e3.grow g.fresh).keep (k.all (T := T))⟩
  · rw [List.getElem?_append] at e
    split at e
    · exact ((ho j po e).grow g.fresh).keep k (fun _ _ _ z => nomatch z) (fun _ z => nomatch z) k.all
    · rename_i h
      have := hn (j - V.objs.length) po e
      rw [← hl] at this
      rwa [Nat.add_sub_cancel' (Nat.not_lt.mp h)] at this
theorem evg_deque {x : Str} {px pos : Pos} (ok : c.Ok) (hk : c.env.kindOf x = some .globalImplicit) (hd : (x == ("__debug__" : Str)) = false) (hg : globIs c.K x (.type "collections.deque") = true) : EvG c (.Call (.Name x px) [] [] pos) V (.o V.objs.length) ⟨V.loc, V.objs ++ [.dq []]⟩ := by
  intro s Q E I l h
  refine wpAny_Call_NameR (ev_glob ok hk hd hg s _ E I fun s1 v I1 t1 i1 => ?_)
  cases i1
  refine callWith_ok (c := c) (V := V) (ps := []) rfl rfl args_nil I1 fun s2 vs I2 t2 i2 => ?_
  cases i2
  refine call_deque fun h' sb e => ?_
  have fr : s2.heap.get? s2.heap.objs.size = none := fresh_get _
  have k : Keep c.N [] s2.heap h' := .of_all fun b o eb => (sb.2 b (Nat.ne_of_lt (Heap.lt_size eb))).trans (Heap.get?_push_of_some _ eb)
  have g := grow_one (a := s2.heap.objs.size) ok I2 fr (I2.size ok)
  refine h { s2 with heap := h' } _ _ _ (g.from (t1.trans t2).keep) (by simp [l]) (I2.grow (s' := { s2 with heap := h' }) ok g k (fun b hb => ?_) l fun j po ej => ?_) ((t1.trans t2).trans ⟨k.all, .refl _, rfl⟩) ?_
  · rcases List.mem_cons.mp hb with rfl | hb
    · exact ⟨_, e⟩
    · obtain ⟨o, eb⟩ := I2.live b hb; exact k.there b o eb
  · cases j with
    | zero => cases ej; exact ⟨s2.heap.objs.size, 0, [], by simp, e, .nil⟩
    | succ j => simp at ej
  · exact .o (m := s2.heap.objs.size) (by rw [l]; simp)
end
end M13
section M14
theorem enter_defB {prog : Program} {w : World} {A : Around} {s : Shared} {R : Result → Shared → Prop} {f : Addr} {o : Obj} {fd : FuncData} {body : List Stmt} {args : Args} {P : List (Str × Value) → Shared → Prop}
    (hroom : A.depth < recursionLimit) (ho : s.heap.get? f = some o) (hdata : o.data = .func fd) (hlim : s.heap.NoLimit) (hcd : s.heap.CodeRec fd.code fd.qualname) (hbody : fd.body = .stmts body) (hbind : ∀ (A : Around) (E : Value → Shared → Prop) (Q : List (Str × Value) → Shared → Prop), (∀ binds s1, P binds s1 → Q binds s1) → wpAny (model prog w) A (bindArgs fd args) Q E s)
    (hcell : ∀ x ∈ fd.scope.names, x.2 ≠ .cell) (hloc : ∀ binds s1, P binds s1 → ∀ x ∈ binds, fd.scope.names.lookup x.1 = some .local) (hkeep : ∀ binds s1, P binds s1 → s1.heap.NoLimit) (hco : fd.scope.isCoroutine = false) (hgen : fd.scope.isGenerator = false) (hk : fd.scope.kind = .function)
    (h : ∀ binds s h', P binds s → FrameAt h' s.heap.objs.size (fun x => binds.reverse.lookup x) → (∀ b o, s.heap.get? b = some o → h'.get? b = some o) →
      wpAny (model prog w) (A.deeper (callEnv fd s.heap.objs.size f)) (execs body (callEnv fd s.heap.objs.size f)) (fun fl s' => R (.ok (.ret (match fl with | .ret v => v | _ => .none))) s')
        (fun e s' => wpAny (model prog w) (A.deeper (callEnv fd s.heap.objs.size f)) (leaving (callEnv fd s.heap.objs.size f) e) (fun _ s'' => R (.error e) s'') (fun e' s'' => R (.error e') s'') s')
        { s with heap := h', toks := s.toks + binds.length }) : codeAny (model prog w) A (.call (.ref f) args) R s := by
  refine codeAny_call_function hroom ho hdata hco hgen hbody hcd (hbind _ _ _ fun binds s1 hp1 => ?_)
  simp only [newFunctionEnv, Option.isSome_none, Bool.false_eq_true, if_false]
  refine wpAny_bind (wpAny_alloc ?_)
  rw [forIn_yield_id fd.closure (fun x hx c => by
    obtain ⟨name, kind⟩ := x
    have : (kind == NameKind.cell) = false := by simpa using hcell _ hx
    simp only [this, Bool.false_eq_true, if_false])]
  refine wpAny_bind (wpAny_pure (wpAny_bind ?_))
  have fresh : ∀ h' : Heap, Heap.SameBut s1.heap.objs.size (s1.heap.push { cls := .type "frame", data := .dict #[] }) h' → ∀ b o, s1.heap.get? b = some o → h'.get? b = some o := fun h' sb b o e =>
    (sb.2 b (Nat.ne_of_lt (Heap.lt_size e))).trans (Heap.get?_push_of_some _ e)
  refine bind_loop (L := s1.heap.objs.size) (env := callEnv fd s1.heap.objs.size f) rfl hk _ (fun _ _ => rfl) binds { s1 with heap := s1.heap.push { cls := .type "frame", data := .dict #[] } } (fun _ => none) ⟨Heap.Ns.new .., ⟨_, Heap.get?_push_size _ rfl, rfl⟩⟩ (hloc binds s1 hp1) fun h' F' S' => ?_
  have k := fresh h' S'
  refine wpAny_pure ⟨(hkeep binds s1 hp1).keeps k, codeAny_func (h binds s1 h' hp1 ?_ k)⟩
  have e : (fun x => (List.lookup x binds.reverse).or none) = fun x => binds.reverse.lookup x := by funext x; cases List.lookup x binds.reverse <;> rfl
  rw [e] at F'; exact F'
structure BindOk (W : Wd) (T : List Addr) (ρ : List (Addr × Addr)) (fd : FuncData) (loc : List (Str × PV)) (s : Shared) (binds : List (Str × Value)) (s1 : Shared) : Prop where
  names : ∀ x ∈ binds, fd.scope.names.lookup x.1 = some .local
  keep : Keep W.N [] s.heap s1.heap
  gens : s1.gens = s.gens
  os : s1.os = s.os
  is : ∀ x p, loc.lookup x = some p → ∃ v, binds.reverse.lookup x = some v ∧ Is T ρ s1.heap p v
noncomputable def CodeK (c : Fc) (f : Value) (args : List PV) (kw : List (Str × PV)) (objs : List PO) (r : PV) (objs' : List PO) : Prop :=
  ∀ (s : Shared) (vs : List Value) (kvs : List (Str × Value)) (R : Result → Shared → Prop), Base c.K c.N s.heap → (∀ b ∈ c.T, ∃ o, s.heap.get? b = some o) → Frs c.N c.A s.heap → ObjsOk c.T c.ρ objs s.heap → objs.length = c.ρ.length → IsL c.T c.ρ s.heap args vs → kvs.map (·.1) = kw.map (·.1) → IsL c.T c.ρ s.heap (kw.map (·.2)) (kvs.map (·.2)) →
    (∀ s' v T ρ, Grow c s T ρ → objs'.length = ρ.length → St c.N (mutsOf c.ρ) s s' → Base c.K c.N s'.heap → Frs c.N c.A s'.heap → (∀ b ∈ T, ∃ o, s'.heap.get? b = some o) → ObjsOk T ρ objs' s'.heap → Is T ρ s'.heap r v → R (.ok (.ret v)) s') → codeAny c.M c.A (.call f ⟨vs, kvs⟩) R s
noncomputable def SpecK (W : Wd) (D : Nat) (f : Value) (ps : List PV) (kw : List (Str × PV)) (objs : List PO) (r : PV) (objs' : List PO) : Prop :=
  ∀ c : Fc, c.Ok → c.toWd = W → Room c.A D → CodeK c f ps kw objs r objs'
theorem sub_grow {c : Fc} (ok : c.Ok) {e : Env} {s1 : Shared} {h' : Heap} {t : Nat} {T : List Addr} {ρ : List (Addr × Addr)} (live : ∀ b ∈ c.T, ∃ o, s1.heap.get? b = some o) (k' : ∀ b o, s1.heap.get? b = some o → h'.get? b = some o) (g : Grow (c.sub e s1.heap.objs.size) { s1 with heap := h', toks := t } T ρ) : Grow c s1 T ρ := by
  have back : ∀ b, h'.get? b = none → s1.heap.get? b = none := fun b e => by
    cases q : s1.heap.get? b with
    | none => rfl
    | some o => rw [k' b o q] at e; cases e
  obtain ⟨ν, e1, e2⟩ := g.ext
  have e1 : ρ = c.ρ ++ ν := e1
  refine ⟨⟨⟨fun b hb => ?_, ?_, g.ok.fx.low⟩, ok.kind, ok.loc, ok.glb, ok.blt, ok.lowK, ok.lo⟩, fun b hb => g.sub b (.tail _ hb), fun b hb => ?_, ν, e1, fun p hp => back _ (e2 p hp)⟩
  · rcases List.mem_cons.mp hb with rfl | hb
    · exact g.sub _ (.tail _ (ok.fx.mem _ (.head _)))
    · exact g.ok.fx.mem b (.tail _ hb)
  · refine List.nodup_cons.mpr ⟨fun hb => ?_, (List.nodup_cons.mp g.ok.fx.nodup).2⟩
    have hb : c.L ∈ ρ.map (·.2) := hb
    rw [e1, List.map_append] at hb
    rcases List.mem_append.mp hb with hb | hb
    · exact (List.nodup_cons.mp ok.fx.nodup).1 hb
    · obtain ⟨p, hp, q⟩ := List.mem_map.mp hb
      obtain ⟨o, e⟩ := live c.L (ok.fx.mem _ (.head _))
      have := back _ (e2 p hp)
      rw [q, e] at this; cases this
  · rcases g.fresh b hb with h | h
    · rcases List.mem_cons.mp h with rfl | h
      · exact .inr fresh_size
      · exact .inl h
    · exact .inr (back b h)
theorem call_defB {W : Wd} {D : Nat} {f : Addr} {fd : FuncData} {body : List Stmt} {ps : List PV} {kw : List (Str × PV)} {objs objs' : List PO} {fl : PF} {loc : List (Str × PV)} (di : DefIs W.K f fd body)
    (hbind : ∀ (T : List Addr) (ρ : List (Addr × Addr)) (s : Shared) (vs : List Value) (kvs : List (Str × Value)), Base W.K W.N s.heap → (∀ b ∈ T, W.N ≤ b) → IsL T ρ s.heap ps vs → kvs.map (·.1) = kw.map (·.1) → IsL T ρ s.heap (kw.map (·.2)) (kvs.map (·.2)) →
      ∀ (A : Around) (E : Value → Shared → Prop) (Q : List (Str × Value) → Shared → Prop), (∀ binds s1, BindOk W T ρ fd loc s binds s1 → Q binds s1) → wpAny (model W.prog W.w) A (bindArgs fd ⟨vs, kvs⟩) Q E s)
    (hrun : ∀ c : Fc, c.Ok → c.toWd = W → Room c.A.in1 D → c.env.scope = fd.scope → ∃ V', ExG c body ⟨loc, objs⟩ fl V' ∧ V'.objs = objs') : SpecK W (D + 1) (.ref f) ps kw objs (retP fl) objs' := by
  rintro c ok rfl room s vs kvs R B live frs O hlen ia ek ik hq
  obtain ⟨oc, od, sl, hK⟩ := di.at_
  have ho := B.k _ _ hK
  refine enter_defB (P := fun binds s1 => BindOk c.toWd c.T c.ρ fd loc s binds s1) (rd0 room.depth) ho rfl B.lim (codeRec_of B.k di.code) di.body (fun A E Q q => hbind c.T c.ρ s vs kvs B ok.fx.low ia ek ik A E Q q) di.cell (fun binds s1 h => h.names) (fun binds s1 h => (B.keep (T := []) ok.lowK (fun _ h => nomatch h) ok.lo h.keep).lim) di.co di.gen di.kind fun binds s1 h' hB F' k' => ?_
  have kB := hB.keep
  have B := B.keep (T := []) ok.lowK (fun _ h => nomatch h) ok.lo kB
  have live : ∀ b ∈ c.T, ∃ o, s1.heap.get? b = some o := fun b hb => let ⟨o, e⟩ := live b hb; kB.there b o e
  have frs := frs.keep kB
  have O : ObjsOk c.T c.ρ objs s1.heap := fun k po e => (O k po e).keep kB (fun _ _ _ z => nomatch z) (fun _ z => nomatch z) kB.all
  have hq1 : ∀ s' v T ρ, Grow c s1 T ρ → objs'.length = ρ.length → St c.N (mutsOf c.ρ) s1 s' → Base c.K c.N s'.heap → Frs c.N c.A s'.heap → (∀ b ∈ T, ∃ o, s'.heap.get? b = some o) → ObjsOk T ρ objs' s'.heap → Is T ρ s'.heap (retP fl) v → R (.ok (.ret v)) s' := fun s' v T ρ g l st => hq s' v T ρ (g.from kB) l (St.trans ⟨kB.all, .of_eq hB.gens, hB.os⟩ st)
  have z : LocOk (s1.heap.objs.size :: c.T) c.ρ s1.heap loc _ := fun x p e => let ⟨v, e1, e2⟩ := hB.is x p e; ⟨v, e1, e2.more fresh_size⟩
  obtain ⟨V', hx, rfl⟩ := hrun _ (ok.subc di live) rfl room.deeper rfl
  refine hx _ _ _ (sub_inv ok di B live frs O k' F' z) hlen fun s' fw T ρ g l I'' st hfl => ?_
  have g0 : Grow c s1 T ρ := sub_grow ok live k' g
  have st0 : St c.N (mutsOf c.ρ) s1 s' := sub_st k' st
  have frs' : Frs c.N c.A s'.heap := frs_sub frs I''.frs
  have fin : ∀ v, Is T ρ s'.heap (retP fl) v → R (.ok (.ret v)) s' := fun v iv => hq1 s' v T ρ g0 l st0 I''.base frs' I''.live I''.rep.objs iv
  cases fl with
  | ret p => obtain ⟨v, rfl, iv⟩ := hfl; exact fin _ iv
  | next => cases hfl; exact fin _ (.v _)
  | brk => cases hfl; exact fin _ (.v _)
  | cont => cases hfl; exact fin _ (.v _)
end M14
section M15
set_option backward.match.sparseCases false in
noncomputable def pushes (h : Heap) : List Obj → Heap
  | [] => h
  | o :: r => pushes (h.push o) r
theorem pushes_keep : ∀ (l : List Obj) (h : Heap) {b : Addr} {o : Obj}, h.get? b = some o → (pushes h l).get? b = some o
  | [], _, _, _, e => e
  | x :: r, h, _, _, e => pushes_keep r _ (Heap.get?_push_of_some _ e)
set_option backward.match.sparseCases false in
noncomputable def runAl {α : Type} (K : Frag) (S : Setting) : Nat → Nat → Nat → Sem α → Option (α × List Obj × Nat)
  | 0, _, _, _ => none
  | n + 1, sz, tk, t => match t with
    | .pure a => some (a, [], tk)
    | .load a _ k => (K.lookup a).bind fun o => runAl K S n sz tk (k o)
    | .rule _ k => runAl K S n sz tk (k ())
    | .at _ k => runAl K S n sz tk (k ())
    | .point _ k => runAl K S n sz tk (k ())
    | .ask k => runAl K S n sz tk (k S)
    | .fresh k => runAl K S n sz (tk + 1) (k tk)
    | .alloc o k => (runAl K S n (sz + 1) tk (k sz)).map fun z => (z.1, o :: z.2.1, z.2.2)
    | _ => none
theorem kin_push {K : Frag} {h : Heap} (X : K.In h) (o : Obj) : K.In (h.push o) := fun a x e => Heap.get?_push_of_some _ (X a x e)
theorem runAl_sound {α : Type} {K : Frag} {M : Model} {A : Around} : ∀ {n : Nat} {t : Sem α} {s : Shared} {a : α} {l : List Obj} {tk : Nat} {Q : α → Shared → Prop} {E : Value → Shared → Prop}, K.In s.heap → runAl K ⟨M.prog, M.w.params⟩ n s.heap.objs.size s.toks t = some (a, l, tk) → Q a { s with heap := pushes s.heap l, toks := tk } → wpAny M A t Q E s
  | 0, _, _, _, _, _, _, _, _, h, _ => no h
  | n + 1, t, s, a, l, tk, Q, E, X, h, q => by
    have ih := @runAl_sound α K M A n
    cases t with
    | pure a => cases h; exact wpAny_pure q
    | load a x k => obtain ⟨o, e, h⟩ := ob h; exact nd_load (X _ _ e) (ih X h q)
    | rule x k => exact nd_rule (ih X h q)
    | «at» x k => exact fun Γ p hΓ => ih X h q Γ _ hΓ
    | point x k => exact nd_point (ih X h q)
    | ask k => exact nd_ask (ih X h q)
    | fresh k => exact nd_fresh (ih (s := { s with toks := s.toks + 1 }) X h q)
    | alloc o k =>
      obtain ⟨⟨a', l', tk'⟩, e, h⟩ := map_some h
      cases h
      refine nd_alloc (ih (s := { s with heap := s.heap.push o }) (kin_push X o) (l := l') (tk := tk') ?_ q)
      show runAl K _ n (s.heap.push o).objs.size s.toks _ = _
      rw [Heap.size_push]
      exact e
    | _ => exact no h
end M15
section M16
theorem looks_run {α : Type} {K : Frag} {M : Model} {h : Heap} (X : K.In h) {n : Nat} {t : Sem α} {a : α} (e : runPure K n t = some a) : Looks M h t a := by
  intro A Q E s k q
  exact runPure_sound (fun b o eb => k b o (X b o eb)) e q
structure MadeOwn (K : Frag) (C fN fI : Addr) : Prop where
  mro : ∃ m, runPure K 60 (mroOf (.ref C)) = some m ∧ m.isEmpty = false
  made : runPure K 60 (Bind.madeBy (.ref C)) = some none
  call : specialIn K (.ref C) "__call__" = some (some (.builtin "type.__call__"))
  typ : instIn K (.ref C) (.type "type") = some true
  reads : readsIn K C (.type "type") = true
  new : ∃ p rest, findCls K (.ref C) (.type "type") "__new__" = some (.get (.builtin "staticmethod.__get__") (.ref p) .none (.ref C)) ∧ recIn K p "staticmethod" = some (.ref fN :: rest)
  sub : mroIn K C (.ref C) = some true
  init : findIn K (.ref C) "__init__" = some (some (.ref fI))
  fn : isFn K (.ref fI) = true
section
variable {prog : Program} {w : World} {A : Around} {K : Frag} {C fN fI : Addr} {R : Result → Shared → Prop} {s : Shared}
theorem make_own {rest : List Value} {kw : List (Str × Value)} (X : K.In s.heap) (Y : MadeOwn K C fN fI)
    (hnew : codeAny (model prog w) (A.under (.builtin "type.__call__" ⟨.ref C :: rest, kw⟩)) (.call (.ref fN) ⟨.ref C :: rest, kw⟩) (fun r s1 => ∃ x, r = .ok (.ret (.ref x)) ∧ K.In s1.heap ∧ (∃ o, s1.heap.get? x = some o ∧ o.cls = .ref C) ∧
      codeAny (model prog w) (A.under (.builtin "type.__call__" ⟨.ref C :: rest, kw⟩)) (.call (.ref fI) ⟨.ref x :: rest, kw⟩) (InitBack x R) s1) { s with toks := s.toks + 1 }) :
    codeAny (model prog w) A (.call (.ref C) ⟨rest, kw⟩) R s := by
  obtain ⟨⟨m, hm, hne⟩, made, call, typ, reads, ⟨p, pr, hf, hp⟩, sub, init, fn⟩ := Y
  have lm : Looks (model prog w) s.heap (mroOf (.ref C)) m := looks_run X hm
  have lmade : Looks (model prog w) s.heap (Bind.madeBy (.ref C)) none := looks_run X made
  have lcall : Looks (model prog w) s.heap (specialOf (.ref C) "__call__") (some (.builtin "type.__call__")) := looks_specialIn X call
  have ltyp : Looks (model prog w) s.heap (isInstance (.ref C) (.type "type")) true := looks_instIn X typ
  obtain ⟨cd, hc, hcm⟩ : ∃ cd, clsIn K C = some cd ∧ True := by
    unfold mroIn at sub
    cases q : clsIn K C with
    | none => rw [q] at sub; cases sub
    | some cd => exact ⟨cd, rfl, trivial⟩
  obtain ⟨oc, od, sl, hK⟩ : ∃ oc od sl, K.lookup C = some ⟨oc, od, .cls cd, sl⟩ := by
    unfold clsIn at hc
    cases e : K.lookup C with
    | none => rw [e] at hc; exact no hc
    | some o =>
      rw [e] at hc
      obtain ⟨oc, od, dt, sl⟩ := o
      cases dt with
      | cls cd' => cases hc; exact ⟨_, _, _, rfl⟩
      | _ => exact no hc
  refine codeAny_of_tree ?_
  show wpAny _ _ (callAny (.ref C) _) _ _ _
  refine nd_load (X _ _ hK) ?_
  show wpAny _ _ (callAny.viaDunder (.ref C) _) _ _ _
  unfold callAny.viaDunder
  refine wpAny_bind (lcall.at ?_)
  dsimp only
  rw [tc_bind]
  refine wpAny_bind (wpAny_pure (wpAny_bind (wpAny_pure ?_)))
  refine wpAny_pure (a := Fin.again (.call (.builtin "type.__call__") ⟨.ref C :: rest, kw⟩)) (And.intro rfl ?_)
  refine codeAny_call_builtin_at (Code.quiet_builtin _ (by decide +kernel)) entry_typeCall (check_slot tc_kind tc_split ltyp (tc_args _ _ _) ?_)
  unfold Builtin.«type.__call__»
  dsimp only
  rw [if_neg (show ¬ ((Value.ref C == Value.type "type") = true) from Bool.false_ne_true)]
  refine wpAny_bind (lm.here ?_)
  rw [hne, if_neg Bool.false_ne_true]
  refine wpAny_bind (lmade.here ?_)
  dsimp only
  refine wpAny_bind (cls_bind X reads hf (wpAny_call (sm_get (s := { s with toks := s.toks + 1 }) X hp (handed_on rfl ?_))))
  refine wpAny_bind (wpAny_holding (wpAny_call (codeAny_mono hnew fun r s1 hr => ?_)))
  obtain ⟨x, rfl, X1, ⟨o, ho, hcl⟩, hi⟩ := hr
  have t1 : Looks (model prog w) s1.heap (typeOf (.ref x)) (.ref C) := hcl ▸ (Looks.ld ho).andThen .now
  have s1' : Looks (model prog w) s1.heap (isSubtype (.ref C) (.ref C)) true := looks_mroIn X1 sub
  have i1 : Looks (model prog w) s1.heap (typeLookup (.ref C) "__init__") (some (.ref fI)) := looks_findIn X1 init
  have b1 : Looks (model prog w) s1.heap (bindSpecial (.ref fI) (.ref x)) (.ref fI, [.ref x]) := bind_fn X1 _ (beq_iff_eq.mp fn)
  show wpAny _ _ _ _ _ _
  unfold isInstance callSpecial? specialOf
  repeat (first | with_reducible refine wpAny_call ?_ | lk)
  refine codeAny_mono hi fun r s' z => ?_
  rcases r with e | (v | _ | _ | _) <;> first | exact z | exact z.elim | skip
  obtain ⟨rfl, z⟩ := z
  exact wpAny_pure (wpAny_pure z)
end
theorem Grow.keepM {c : Fc} {s s1 s2 : Shared} {T : List Addr} {ρ : List (Addr × Addr)} (g : Grow c s T ρ) (x : St c.N (mutsOf c.ρ) s s1) (y : St c.N (mutsOf ρ) s1 s2) : St c.N (mutsOf c.ρ) s s2 := by
  obtain ⟨ν, rfl, h1⟩ := g.ext
  refine ⟨⟨fun b o nb e => ?_, fun b o e => let ⟨o', e'⟩ := x.keep.there b o e; y.keep.there b o' e'⟩, x.gens.trans y.gens, y.os.trans x.os⟩
  have nb2 : b ∉ mutsOf (c.ρ ++ ν) := fun z => by
    unfold mutsOf at z
    rw [List.map_append] at z
    rcases List.mem_append.mp z with z | z
    · exact nb z
    · obtain ⟨p, hp, rfl⟩ := List.mem_map.mp z
      rw [h1 p hp] at e; cases e
  have one : Keep c.N (mutsOf (c.ρ ++ ν)) s.heap s2.heap := (x.keep.sub fun b hb => by unfold mutsOf; rw [List.map_append]; exact List.mem_append.mpr (.inl hb)).trans y.keep
  exact one.off b o nb2 e
theorem IsL.grown {c : Fc} {s s1 : Shared} {T : List Addr} {ρ : List (Addr × Addr)} {ps : List PV} {vs : List Value} (g : Grow c s T ρ) (x : St c.N (mutsOf c.ρ) s s1) (i : IsL c.T c.ρ s.heap ps vs) : IsL T ρ s1.heap ps vs := by
  obtain ⟨ν, rfl, h1⟩ := g.ext
  exact (i.grow g.fresh).keep (x.keep.sub fun b hb => g.ok.fx.mem b (.tail _ (by rw [List.map_append]; exact List.mem_append.mpr (.inl hb))))
theorem spec_class {W : Wd} {D : Nat} {C fN fI : Addr} {ps : List PV} {kw : List (Str × PV)} {objs objs1 objs2 : List PO} {k : Nat} (Y : MadeOwn W.K C fN fI) (hN : SpecK W D (.ref fN) (.v (.ref C) :: ps) kw objs (.o k) objs1) (hk : instC objs1 k C) (hI : SpecK W D (.ref fI) (.o k :: ps) kw objs1 (.v .none) objs2) :
    SpecK W (D + 1) (.ref C) ps kw objs (.o k) objs2 := by
  rintro c ok rfl room s vs kvs R B live frs O hlen ia ek ik hq
  refine make_own B.k Y ?_
  let c' : Fc := { c with A := c.A.under (.builtin "type.__call__" ⟨.ref C :: vs, kvs⟩) }
  have ok' : c'.Ok := ⟨ok.fx, ok.kind, ok.loc, ok.glb, ok.blt, ok.lowK, ok.lo⟩
  have room' : Room c'.A D := ⟨(show c.A.depth + 1 + D < _ from rd1 room.depth), (show c.A.units + 1 + 8 * D + 120 < _ from ru (k := 1) (by decide) room.units), room.handled⟩
  have frs' : Frs c.N c'.A s.heap := frs
  refine hN c' ok' rfl room' { s with toks := s.toks + 1 } (.ref C :: vs) kvs _ B live frs' O hlen (.cons (.v _) ia) ek ik fun s1 v T ρ g l st B1 F1 live1 O1 i1 => ?_
  cases i1 with
  | o e1 =>
  obtain ⟨att, ho⟩ := hk
  obtain ⟨a', dx, es, n, e', na, ea, ed, m⟩ := O1 k _ ho
  rw [e1] at e'; cases e'
  refine ⟨_, rfl, B1.k, ⟨_, ea, rfl⟩, ?_⟩
  refine hI (c'.at T ρ) g.ok rfl room' s1 _ kvs _ B1 live1 F1 O1 l (.cons (.o e1) (ia.grown (c := c') (s := { s with toks := s.toks + 1 }) g st)) ek (ik.grown (c := c') (s := { s with toks := s.toks + 1 }) g st) fun s2 v2 T2 ρ2 g2 l2 st2 B2 F2 live2 O2 i2 => ?_
  cases i2
  have gg : Grow c' { s with toks := s.toks + 1 } T2 ρ2 := g.trans st.keep g2
  refine ⟨rfl, hq s2 _ T2 ρ2 ⟨⟨gg.ok.fx, ok.kind, ok.loc, ok.glb, ok.blt, ok.lowK, ok.lo⟩, gg.sub, gg.fresh, gg.ext⟩ l2 ?_ B2 F2 live2 O2 ?_⟩
  · have := g.keepM (s := { s with toks := s.toks + 1 }) st st2
    exact ⟨this.keep, this.gens, this.os⟩
  · obtain ⟨ν, e3, _⟩ := g2.ext
    have e3 : ρ2 = ρ ++ ν := e3
    exact .o (by rw [e3, List.getElem?_append_left (List.getElem?_eq_some_iff.mp e1).1]; exact e1)
end M16
section M17
theorem grow_live {c : Fc} {s : Shared} {a d : Addr} (ok : c.Ok) (live : ∀ b ∈ c.T, ∃ o, s.heap.get? b = some o) (fd : s.heap.get? d = none) (hN : c.N ≤ d) : Grow c s (d :: c.T) (c.ρ ++ [(a, d)]) := by
  have nT : d ∉ c.T := fun hb => by obtain ⟨o, e⟩ := live _ hb; rw [fd] at e; cases e
  refine ⟨⟨⟨fun b hb => ?_, ?_, fun b hb => ?_⟩, ok.kind, ok.loc, ok.glb, ok.blt, ok.lowK, ok.lo⟩, fun b hb => .tail _ hb, fun b hb => ?_, [(a, d)], rfl, fun p hp => by rcases List.mem_singleton.mp hp with rfl; exact fd⟩
  · have hb : b ∈ c.L :: (c.ρ ++ [(a, d)]).map (·.2) := hb
    rw [List.map_append] at hb
    rcases List.mem_cons.mp hb with rfl | hb
    · exact .tail _ (ok.fx.mem _ (.head _))
    · rcases List.mem_append.mp hb with hb | hb
      · exact .tail _ (ok.fx.mem _ (.tail _ hb))
      · rcases List.mem_singleton.mp hb with rfl; exact .head _
  · show (c.L :: (c.ρ ++ [(a, d)]).map (·.2)).Nodup
    rw [List.map_append, ← List.cons_append]
    refine List.nodup_append.mpr ⟨ok.fx.nodup, by simp, fun x hx y hy => ?_⟩
    rcases List.mem_singleton.mp hy with rfl
    intro q; subst q
    exact nT (ok.fx.mem _ hx)
  · rcases List.mem_cons.mp hb with rfl | hb
    · exact hN
    · exact ok.fx.low b hb
  · rcases List.mem_cons.mp hb with rfl | hb
    · exact .inr fd
    · exact .inl hb
theorem last_get {α : Type} {l r : List α} {x : α} : (l ++ [x] ++ r)[l.length]? = some x := by simp
theorem last_get0 {α : Type} {l : List α} {x : α} : (l ++ [x])[l.length]? = some x := by simp
theorem live_size {c : Fc} {s : Shared} (ok : c.Ok) (live : ∀ b ∈ c.T, ∃ o, s.heap.get? b = some o) : c.N ≤ s.heap.objs.size := by
  obtain ⟨o, e⟩ := live c.L (ok.fx.mem _ (.head _))
  exact Nat.le_of_lt (Nat.lt_of_le_of_lt (ok.fx.low c.L (ok.fx.mem _ (.head _))) (Heap.lt_size e))
theorem objs_grow {c : Fc} {s : Shared} {h' : Heap} {T : List Addr} {ρ : List (Addr × Addr)} {objs new : List PO} (g : Grow c s T ρ) (O : ObjsOk c.T c.ρ objs s.heap) (hl : objs.length = c.ρ.length) (k : Keep c.N [] s.heap h') (hn : ∀ j po, new[j]? = some po → ObjAt T ρ h' (c.ρ.length + j) po) : ObjsOk T ρ (objs ++ new) h' := by
  obtain ⟨ν, rfl, e2⟩ := g.ext
  intro j po e
  rw [List.getElem?_append] at e
  split at e
  · exact ((O j po e).grow g.fresh).keep k (fun _ _ _ z => nomatch z) (fun _ z => nomatch z) k.all
  · rename_i h
    have := hn (j - objs.length) po e
    rw [← hl] at this
    rwa [Nat.add_sub_cancel' (Nat.not_lt.mp h)] at this
theorem spec_class0 {W : Wd} {D : Nat} {C fI : Addr} {ps : List PV} {kw : List (Str × PV)} {objs objs2 : List PO} (hm : makesIn W.K C = true) (hi : findIn W.K (.ref C) "__init__" = some (some (.ref fI))) (hf : isFn W.K (.ref fI) = true)
    (hI : SpecK W D (.ref fI) (.o objs.length :: ps) kw (objs ++ [.inst C []]) (.v .none) objs2) : SpecK W (D + 1) (.ref C) ps kw objs (.o objs.length) objs2 := by
  rintro c ok rfl room s vs kvs R B live frs O hlen ia ek ik hq
  have B0 := B
  obtain ⟨hh, gg, dd, tt, os⟩ := s
  refine make_core (makes_of B.k hm) (looks_findIn B.k hi) (fun self => bind_fn B.k self (beq_iff_eq.mp hf)) (.inl rfl) ?_
  let c' : Fc := { c with A := c.A.under (.builtin "type.__call__" ⟨.ref C :: vs, kvs⟩) }
  have ok' : c'.Ok := ⟨ok.fx, ok.kind, ok.loc, ok.glb, ok.blt, ok.lowK, ok.lo⟩
  have room' : Room c'.A D := ⟨(show c.A.depth + 1 + D < _ from rd1 room.depth), (show c.A.units + 1 + 8 * D + 120 < _ from ru (k := 1) (by decide) room.units), room.handled⟩
  have frs' : Frs c.N c'.A hh := frs
  have fr : hh.get? hh.objs.size = none := fresh_get _
  have kp : Keep c.N [] hh ((hh.push emptyDict).push (instObj C hh.objs.size)) := .of_all fun b o e => Heap.get?_push_of_some _ (Heap.get?_push_of_some _ e)
  have hd : ((hh.push emptyDict).push (instObj C hh.objs.size)).get? hh.objs.size = some emptyDict := Heap.get?_push_of_some _ (Heap.get?_push_size _ rfl)
  have hx : ((hh.push emptyDict).push (instObj C hh.objs.size)).get? (hh.objs.size + 1) = some (instObj C hh.objs.size) := by heap_get
  have g : Grow c' ⟨hh, gg, dd, tt, os⟩ (hh.objs.size :: c.T) (c.ρ ++ [(hh.objs.size + 1, hh.objs.size)]) := grow_live (c := c') ok' live fr (show c.N ≤ hh.objs.size from live_size (c := c) (s := ⟨hh, gg, dd, tt, os⟩) ok live)
  have fx1 : hh.get? (hh.objs.size + 1) = none := by
    cases q : hh.get? (hh.objs.size + 1) with
    | none => rfl
    | some o => exact absurd (Heap.lt_size q) (Nat.not_lt.mpr (Nat.le_succ _))
  have nx : hh.objs.size + 1 ∉ hh.objs.size :: c.T := fun z => by
    rcases List.mem_cons.mp z with z | z
    · exact absurd z (Nat.succ_ne_self _)
    · obtain ⟨o, e⟩ := live _ z
      have e : hh.get? _ = some o := e
      rw [fx1] at e; cases e
  have O1 : ObjsOk (hh.objs.size :: c.T) (c.ρ ++ [(hh.objs.size + 1, hh.objs.size)]) (objs ++ [.inst C []]) ((hh.push emptyDict).push (instObj C hh.objs.size)) := objs_grow (c := c') g O hlen kp fun j po ej => by
    cases j with
    | zero => cases ej; exact ⟨hh.objs.size + 1, hh.objs.size, [], 0, last_get0, nx, hx, hd, .nil⟩
    | succ j => simp at ej
  have st : St c.N (mutsOf c.ρ) ⟨hh, gg, dd, tt, os⟩ ⟨(hh.push emptyDict).push (instObj C hh.objs.size), gg, dd, tt, os⟩ := ⟨kp.all, .refl _, rfl⟩
  refine hI (c'.at _ _) g.ok rfl room' _ (.ref (hh.objs.size + 1) :: vs) kvs _ (B.keep (T := []) ok.lowK (fun _ h => nomatch h) ok.lo kp) (fun b hb => ?_) (frs'.keep kp) O1 (by simp [hlen]) (.cons (.o (m := hh.objs.size) (by rw [hlen]; exact last_get0)) (ia.grown (c := c') (s := ⟨hh, gg, dd, tt, os⟩) g st)) ek (ik.grown (c := c') (s := ⟨hh, gg, dd, tt, os⟩) g st) fun s2 v2 T2 ρ2 g2 l2 st2 B2 F2 live2 O2 i2 => ?_
  · rcases List.mem_cons.mp hb with rfl | hb
    · exact ⟨_, hd⟩
    · obtain ⟨o, e⟩ := live b hb; exact kp.there b o e
  cases i2
  have gt : Grow c' ⟨hh, gg, dd, tt, os⟩ T2 ρ2 := g.trans (s1 := ⟨(hh.push emptyDict).push (instObj C hh.objs.size), gg, dd, tt, os⟩) kp g2
  refine ⟨rfl, hq s2 _ T2 ρ2 ⟨⟨gt.ok.fx, ok.kind, ok.loc, ok.glb, ok.blt, ok.lowK, ok.lo⟩, gt.sub, gt.fresh, gt.ext⟩ l2 (g.keepM (s1 := ⟨(hh.push emptyDict).push (instObj C hh.objs.size), gg, dd, tt, os⟩) st st2) B2 F2 live2 O2 ?_⟩
  obtain ⟨ν, e3, _⟩ := g2.ext
  have e3 : ρ2 = c.ρ ++ [(hh.objs.size + 1, hh.objs.size)] ++ ν := e3
  exact .o (m := hh.objs.size) (by rw [e3, hlen]; exact last_get)
end M17
section M18
noncomputable def ObjNew (K : Frag) (C : Addr) : Prop := (∀ S sz tk, runAl K S 200 sz tk (checkBuiltinCall "object.__new__" ⟨[.ref C], []⟩) = some ((), [], tk)) ∧
  ∀ S sz tk, runAl K S 200 sz tk (Builtin.«object.__new__» ⟨[.ref C], []⟩) = some (.done (.ret (.ref (sz + 1))), [emptyDict, instObj C sz], tk)
theorem call_objnew {prog : Program} {w : World} {A : Around} {K : Frag} {C : Addr} {s : Shared} {Q E : Value → Shared → Prop} (X : K.In s.heap) (h : ObjNew K C) (hq : Q (.ref (s.heap.objs.size + 1)) { s with heap := (s.heap.push emptyDict).push (instObj C s.heap.objs.size) }) :
    wpAny (model prog w) A (call (.builtin "object.__new__") [.ref C]) Q E s := by
  have F := PySem.F.objNew
  refine wpAny_call (codeAny_call_builtin_code (Code.quiet_builtin _ F.quiet) (runAl_sound X (h.1 _ _ _) ?_))
  refine codeAny_builtin F.entry (runAl_sound (s := { s with heap := s.heap, toks := s.toks }) X (h.2 _ _ _) ?_)
  exact hq
theorem meth_type {prog : Program} {w : World} {A : Around} {K : Frag} {s : Shared} {E : Value → Shared → Prop} {T : String} {name : Str} {v : Value} {pl : Sem Bool} {Q : Value × List Value → Shared → Prop} (X : K.In s.heap) (ht : typeOf (.type T) = pure (.type "type")) (hs : Manifest.isStub T = false)
    (e : findCls K (.type T) (.type "type") name = some (.val v)) (hh : handedIn v = true) (h : Q (v, []) { s with toks := s.toks + 1 }) : wpAny (model prog w) A (getMethod (.type T) name pl) Q E s := by
  have hstub : opaqueClassAbove (.type T) = pure none := by unfold opaqueClassAbove; dsimp only; rw [hs]; rfl
  have L0 : Looks (model prog w) s.heap (typeOf (.type T)) (.type "type") := Looks.of_pure ht
  have hg : findIn K (.type "type") "__getattribute__" = some (some (.builtin "type.__getattribute__")) := type_tga
  unfold getMethod specialOf
  refine wpAny_bind (wpAny_bind (L0.here ((looks_findIn X hg).here ?_)))
  dsimp only
  rw [if_pos canon_tga]
  refine wpAny_bind (wpAny_mono (Q := fun v => Q (v, [])) (E := E) ?_ (fun _ _ z => wpAny_pure z) fun _ _ z => z)
  have LO : Looks (model prog w) s.heap (opaqueClassAbove (.type T)) none := Looks.of_pure hstub
  refine cls_open X LO L0 hg (looks_hook X (r := none) (by rfl)) (by show subIn K _ _ = _; rfl) e
    (wpAny_pure (by show wpAny _ _ (handedOut v) _ _ _; rw [handedOut_of hh]; exact wpAny_pure h))
theorem tyo : typeOf (.type "object") = pure (.type "type") := by kernel_rfl
theorem stubo : Manifest.isStub "object" = false := by decide +kernel
theorem hando : handedIn (.builtin "object.__new__") = true := by decide +kernel
theorem evg_objnew {c : Fc} {V : View} {y x : Str} {py px apos pos : Pos} {C : Addr} (ok : c.Ok) (hky : c.env.kindOf y = some .globalImplicit) (hdy : (y == ("__debug__" : Str)) = false) (hgy : globIs c.K y (.type "object") = true)
    (hfc : findCls c.K (.type "object") (.type "type") "__new__" = some (.val (.builtin "object.__new__"))) (hx : c.env.kindOf x = some .local) (hdx : (x == ("__debug__" : Str)) = false) (hv : V.loc.lookup x = some (.v (.ref C))) (hn : ObjNew c.K C) (hl : (apos.endLine == pos.line) = true) :
    EvG c (.Call (.Attribute (.Name y py) "__new__" apos) [.Name x px] [] pos) V (.o V.objs.length) ⟨V.loc, V.objs ++ [.inst C []]⟩ := by
  intro s Q E I l h
  rw [mc_eq (args := [.Name x px]) base_name hl rfl (show 1 < 30 by decide)]
  refine wpAny_bind (ev_glob ok hky hdy hgy s _ E I fun s1 v I1 t1 i1 => wpAny_bind (wpAny_standAt (wpAny_bind (wpAny_holding ?_))))
  cases i1
  refine meth_type (K := c.K) (T := "object") (name := "__new__") (v := .builtin "object.__new__") I1.base.k tyo stubo hfc hando ?_
  have I1' : Inv c V { s1 with toks := s1.toks + 1 } := I1.toks _
  refine callWith_ok (c := c) (V := V) (ps := [.v (.ref C)]) rfl rfl (args_cons ok (ev_local ok hx hdx hv) args_nil rfl) I1' fun s2 vs I2 t2 i2 => ?_
  obtain ⟨u, rfl, iu⟩ := isL1 i2
  cases iu
  refine call_objnew I2.base.k hn ?_
  generalize eH : s2.heap.objs.size = sz
  have fr : s2.heap.get? sz = none := eH ▸ fresh_get _
  have k : Keep c.N [] s2.heap ((s2.heap.push emptyDict).push (instObj C sz)) := .of_all fun b o eb => Heap.get?_push_of_some _ (Heap.get?_push_of_some _ eb)
  have g := grow_one (a := sz + 1) ok I2 fr (eH ▸ I2.size ok)
  have hd : ((s2.heap.push emptyDict).push (instObj C sz)).get? sz = some emptyDict := Heap.get?_push_of_some _ (eH ▸ Heap.get?_push_size _ rfl)
  have hxx : ((s2.heap.push emptyDict).push (instObj C sz)).get? (sz + 1) = some (instObj C sz) := by subst eH; heap_get
  have fx1 : s2.heap.get? (sz + 1) = none := by
    cases q : s2.heap.get? (sz + 1) with
    | none => rfl
    | some o => exact absurd (Heap.lt_size q) (eH ▸ Nat.not_lt.mpr (Nat.le_succ _))
  have nx : sz + 1 ∉ sz :: c.T := fun z => by
    rcases List.mem_cons.mp z with z | z
    · exact absurd z (Nat.succ_ne_self _)
    · obtain ⟨o, e⟩ := I2.live _ z
      rw [fx1] at e; cases e
  have tt := (t1.trans (.toks (s1.toks + 1))).trans t2
  refine h { s2 with heap := (s2.heap.push emptyDict).push (instObj C sz) } _ _ _ (g.from tt.keep) (by simp [l]) (I2.grow (s' := { s2 with heap := (s2.heap.push emptyDict).push (instObj C sz) }) ok g k (fun b hb => ?_) l fun j po ej => ?_) (tt.trans ⟨k.all, .refl _, rfl⟩) ?_
  · rcases List.mem_cons.mp hb with rfl | hb
    · exact ⟨_, hd⟩
    · obtain ⟨o, eb⟩ := I2.live b hb; exact k.there b o eb
  · cases j with
    | zero => cases ej; exact ⟨sz + 1, sz, [], 0, last_get0, nx, hxx, hd, .nil⟩
    | succ j => simp at ej
  · exact .o (m := sz) (by rw [l]; exact last_get0)
end M18
section M19
theorem keep_pushes {N : Nat} (h : Heap) (l : List Obj) : Keep N [] h (pushes h l) := .of_all fun b o e => pushes_keep l h e
theorem bind_al {W : Wd} {T : List Addr} {ρ : List (Addr × Addr)} {fd : FuncData} {loc : List (Str × PV)} {s : Shared} {vs : List Value} {kvs : List (Str × Value)} {binds : List (Str × Value)} (X : W.K.In s.heap)
    (e : (runAl W.K ⟨W.prog, W.w.params⟩ 200 s.heap.objs.size s.toks (bindArgs fd ⟨vs, kvs⟩)).map (·.1) = some binds) (hn : (binds.map (·.1)).all (fun x => fd.scope.names.lookup x == some .local) = true)
    (hi : ∀ x p, loc.lookup x = some p → ∃ v, binds.reverse.lookup x = some v ∧ Is T ρ s.heap p v) : ∀ (A : Around) (E : Value → Shared → Prop) (Q : List (Str × Value) → Shared → Prop), (∀ binds s1, BindOk W T ρ fd loc s binds s1 → Q binds s1) → wpAny (model W.prog W.w) A (bindArgs fd ⟨vs, kvs⟩) Q E s := by
  intro A E Q q
  obtain ⟨⟨b, l, tk⟩, e9, rfl⟩ := Option.map_eq_some_iff.mp e
  refine runAl_sound (M := model W.prog W.w) X e9 (q _ _ ⟨fun x hx => ?_, keep_pushes _ _, rfl, rfl, fun x p h => ?_⟩)
  · exact beq_iff_eq.mp (List.all_eq_true.mp hn x.1 (List.mem_map_of_mem hx))
  · obtain ⟨v, e1, e2⟩ := hi x p h
    exact ⟨v, e1, e2.keep (keep_pushes (N := 0) _ _).all⟩
theorem exg_one {c : Fc} {st : Stmt} {V V' : View} {p : PV} {r : List Stmt} (h : SxG c st V (.ret p) V') : ExG c (st :: r) V (.ret p) V' := exg_stop h (fun q => nomatch q)
theorem sxg_return {c : Fc} {e : Expr} {pos : Pos} {V V1 : View} {p : PV} (he : EvG c e V p V1) : SxG c (.Return (some e) pos) V (.ret p) V1 := fun s Q E I l k => wpAny_Return_some (he s _ E I l fun s1 v T ρ g l1 I1 t1 i1 => k s1 _ T ρ g l1 I1 t1 ⟨v, rfl, i1⟩)
end M19
section M20
theorem SpecK.le {W : Wd} {D D' : Nat} {f : Value} {ps : List PV} {kw : List (Str × PV)} {objs objs' : List PO} {r : PV} (h : SpecK W D f ps kw objs r objs') (hd : D ≤ D') : SpecK W D' f ps kw objs r objs' := fun c ok e room => h c ok e (room.le hd)
noncomputable abbrev GC := Value → List PV → List (Str × PV) → List PO → FP
structure GOrc (W : Wd) (D : Nat) where
  fn : GC
  ok : ∀ f ps kw objs r objs' P, fn f ps kw objs = some (r, objs', P) → keepOk W.K f = true ∧ (AllP P → SpecK W D f ps kw objs r objs')
noncomputable def GOrc.one {W : Wd} {D : Nat} {f : Value} {ps : List PV} {kw : List (Str × PV)} {objs objs1 : List PO} {r : PV} (hk : keepOk W.K f = true) (h : SpecK W D f ps kw objs r objs1) : GOrc W D := ⟨fun f' ps' kw' objs' => if f' = f then some (r, objs1, [(ps', kw', objs') = (ps, kw, objs)]) else .none, fun f' ps' kw' objs' r' objs2 P e => by
    obtain ⟨g, e2⟩ := oi e
    subst g
    cases e2
    exact ⟨hk, fun hP => by obtain ⟨e1, e2⟩ := Prod.mk.inj hP.1; obtain ⟨e2, e3⟩ := Prod.mk.inj e2; rw [e1, e2, e3]; exact h⟩⟩
noncomputable def GcOk (c : Fc) (gc : GC) : Prop := ∀ f ps kw objs r objs' P, gc f ps kw objs = some (r, objs', P) → keepOk c.K f = true ∧ (AllP P → CodeK c f ps kw objs r objs')
theorem GOrc.gc {W : Wd} {D : Nat} {c : Fc} (o : GOrc W D) (ok : c.Ok) (e : c.toWd = W) (room : Room c.A.in1 D) : GcOk c o.fn := fun f ps kw objs r objs' P h => by
  obtain ⟨h1, h2⟩ := o.ok _ _ _ _ _ _ _ h
  subst e
  exact ⟨h1, fun hP => h2 hP c ok rfl room.of_in1⟩
section
variable {c : Fc} {V V1 V2 V' : View} {p : PV} {f : PF}
theorem Inv.calledG {s s' : Shared} {T : List Addr} {ρ : List (Addr × Addr)} {objs' : List PO} (ok : c.Ok) (I : Inv c V s) (g : Grow c s T ρ) (st : St c.N (mutsOf c.ρ) s s') (B : Base c.K c.N s'.heap) (F : Frs c.N c.A s'.heap) (live : ∀ b ∈ T, ∃ o, s'.heap.get? b = some o) (O : ObjsOk T ρ objs' s'.heap) : Inv (c.at T ρ) ⟨V.loc, objs'⟩ s' := by
  have nd := List.nodup_cons.mp ok.fx.nodup
  obtain ⟨m, hn, hl⟩ := I.rep.ns
  refine ⟨⟨⟨m, st.keep.frame nd.1 hn, fun x p e => ?_⟩, O⟩, B, live, F⟩
  obtain ⟨v, e1, e2⟩ := hl x p e
  obtain ⟨ν, rfl, h1⟩ := g.ext
  exact ⟨v, e1, (e2.grow g.fresh).keep (st.keep.sub fun b hb => g.sub b (ok.fx.mem b (mutsOf_sub b hb)))⟩
noncomputable def KwOk (c : Fc) (ks : List Keyword) (V : View) (kw : List (Str × PV)) : Prop :=
  ks.map (·.arg) = kw.map (fun z => some z.1) ∧ ∀ (s : Shared) (pos : Pos) (Q : List Value → Shared → Prop) (E : Value → Shared → Prop), Inv c V s → (∀ s' vs, Inv c V s' → St c.N c.muts s s' → IsL c.T c.ρ s'.heap (kw.map (·.2)) vs → Q vs s') → wpAny c.M c.A (evalAll ((backToKw pos (keywordEach ks c.env)).map (·.2))) Q E s
theorem kw_nil : KwOk c [] V [] := ⟨rfl, fun s pos Q E I h => kwAll_nil (h s [] I (.refl s) .nil)⟩
theorem kw_cons {x : Str} {e : Expr} {kp : Pos} {r : List Keyword} {kw : List (Str × PV)} (ok : c.Ok) (he : EvOk c e V p V) (hr : KwOk c r V kw) : KwOk c (⟨some x, e, kp⟩ :: r) V ((x, p) :: kw) :=
  ⟨by simp [hr.1], fun s pos Q E I h => kwAll_cons (he s _ E I fun s1 v I1 t1 i1 => hr.2 s1 pos _ E I1 fun s2 vs I2 t2 i2 => h s2 _ I2 (t1.trans t2) (.cons (i1.st ok t2) i2))⟩
theorem kwEach_names {pos : Pos} {env : Env} : ∀ {ks : List Keyword} {kw : List (Str × PV)}, ks.map (·.arg) = kw.map (fun z => some z.1) → (backToKw pos (keywordEach ks env)).map (·.1) = kw.map (fun z => some z.1)
  | [], [], _ => rfl
  | k :: ks, z :: kw, h => by
    obtain ⟨ka, kv, kp⟩ := k
    simp only [List.map_cons, List.cons.injEq] at h
    show ka :: (backToKw pos (keywordEach ks env)).map (·.1) = _
    rw [kwEach_names h.2, h.1]; rfl
  | [], _ :: _, h => by cases h
  | _ :: _, [], h => by cases h
theorem kw_facts {l : List (Option Str × Sem Value)} {kw : List (Str × PV)} (h : l.map (·.1) = kw.map (fun z => some z.1)) : l.all (·.1.isSome) = true ∧ l.any (·.1.isNone) = false ∧ l.filterMap (·.1) = kw.map (·.1) := by
  induction l generalizing kw with
  | nil => cases kw with
    | nil => exact ⟨rfl, rfl, rfl⟩
    | cons _ _ => cases h
  | cons a r ih => cases kw with
    | nil => cases h
    | cons z kw =>
      simp only [List.map_cons, List.cons.injEq] at h
      obtain ⟨h1, h2, h3⟩ := ih h.2
      obtain ⟨a1, a2⟩ := a
      have := h.1
      subst this
      refine ⟨by simp [h1], by simp [h2], by simp [h3]⟩
theorem zip_fst {α β : Type} : ∀ {l : List α} {r : List β}, l.length = r.length → (l.zip r).map (·.1) = l ∧ (l.zip r).map (·.2) = r
  | [], [], _ => ⟨rfl, rfl⟩
  | a :: l, b :: r, h => by
    obtain ⟨h1, h2⟩ := zip_fst (l := l) (r := r) (by simpa using h)
    simp [h1, h2]
theorem evg_call {x : Str} {px pos : Pos} {es : List Expr} {ks : List Keyword} {ps : List PV} {kw : List (Str × PV)} {fv : Value} {objs' : List PO} (ok : c.Ok) (hx : EvOk c (.Name x px) V (.v fv) V) (hk : keepOk c.K fv = true) (hs : es.all noStar = true) (ha : ArgsOk c es V ps V) (hkw : KwOk c ks V kw) (hc : CodeK c fv ps kw V.objs p objs') :
    EvG c (.Call (.Name x px) es ks pos) V p ⟨V.loc, objs'⟩ := by
  intro s Q E I l h
  refine wpAny_Call_Name_kw (hx s _ E I fun s1 v I1 t1 i1 => ?_)
  cases i1
  have fin : ∀ s2 vs kvs, Inv c V s2 → St c.N c.muts s s2 → IsL c.T c.ρ s2.heap ps vs → kvs.map (·.1) = kw.map (·.1) → IsL c.T c.ρ s2.heap (kw.map (·.2)) (kvs.map (·.2)) → wpAny c.M c.A (call fv vs kvs) Q E s2 := fun s2 vs kvs I2 t2 i2 e2 k2 =>
    wpAny_call (hc s2 vs kvs _ I2.base I2.live I2.frs I2.rep.objs l i2 e2 k2 fun s3 v T ρ g l3 st3 B3 F3 live3 O3 i3 => h s3 v T ρ (g.from t2.keep) l3 (I2.calledG ok g st3 B3 F3 live3 O3) (t2.trans (st3.sub mutsOf_sub)) i3)
  have names := fun pos => kwEach_names (pos := pos) (env := c.env) hkw.1
  refine callWith_of (P := c.K.In) (by rw [starEach_any hs, (kw_facts (names _)).2.1]; rfl) (keeps_ok hk) ?_
  have args : wpAny c.M c.A (evalArgs fv true (backTo pos (starEach es c.env)) (backToKw pos (keywordEach ks c.env))) (fun a s₁ => ∃ s2 vs us, s₁ = s2 ∧ a = ⟨vs, (kw.map (·.1)).zip us⟩ ∧ Inv c V s2 ∧ St c.N c.muts s1 s2 ∧ IsL c.T c.ρ s2.heap ps vs ∧ IsL c.T c.ρ s2.heap (kw.map (·.2)) us) E s1 := by
    have two : wpAny c.M c.A (spliced (backTo pos (starEach es c.env))) (fun vs s₁ => wpAny c.M c.A (evalAll ((backToKw pos (keywordEach ks c.env)).map (·.2))) (fun us s₂ => ∃ s2 vs' us', s₂ = s2 ∧ (⟨vs, ((backToKw pos (keywordEach ks c.env)).filterMap (·.1)).zip us⟩ : Args) = ⟨vs', (kw.map (·.1)).zip us'⟩ ∧ Inv c V s2 ∧ St c.N c.muts s1 s2 ∧ IsL c.T c.ρ s2.heap ps vs' ∧ IsL c.T c.ρ s2.heap (kw.map (·.2)) us') E s₁) E s1 :=
      ha s1 pos _ E I1 fun s2 vs I2 t2 i2 => hkw.2 s2 pos _ E I2 fun s3 us I3 t3 i3 => ⟨s3, vs, us, rfl, by rw [(kw_facts (names _)).2.2], I3, t2.trans t3, i2.st ok t3, i3⟩
    cases es with
    | nil => exact evalArgs_kw2_nil (kw_facts (names _)).1 (by
        have := two
        show wpAny _ _ _ _ _ _
        have z : wpAny c.M c.A (spliced []) _ E s1 := this
        unfold spliced at z
        exact fun Γ p hΓ => z Γ p hΓ Γ p hΓ)
    | cons e r =>
      rw [List.all_cons, Bool.and_eq_true] at hs
      exact evalArgs_kw2 (kw_facts (names _)).1 two (starEach_cons hs.1)
  refine wpAny_mono args (fun a s₁ ha => ?_) fun _ _ z => z
  obtain ⟨s2, vs, us, rfl, rfl, I2, t2, i2, k2⟩ := ha
  have hl : (kw.map (·.1)).length = us.length := by rw [← k2.length]; simp
  obtain ⟨z1, z2⟩ := zip_fst hl
  exact ⟨I2.base.k, fin s₁ vs _ I2 (t1.trans t2) i2 z1 (by rw [z2]; exact k2)⟩
end
set_option backward.match.sparseCases false in
noncomputable def pks (g : Cfg) (n : Nat) (V : View) : List Keyword → Option (List (Str × PV) × List Prop)
  | [] => some ([], [])
  | k :: r => k.arg.bind fun x => two (pe g n k.value V) (pks g n V r) fun z z' => some ((x, z.1) :: z'.1, z.2 ++ z'.2)
noncomputable def geDq (g : Cfg) (x : Str) (es : List Expr) (ks : List Keyword) (V : View) (P : List Prop) : FP := if es.isEmpty && ks.isEmpty && (g.scope.names.lookup x == some .globalImplicit) && (g.glob.lookup x == some (.type "collections.deque")) && !(x == ("__debug__" : Str)) then some (.o V.objs.length, V.objs ++ [.dq []], P) else none
noncomputable def geApp (g : Cfg) (gc : GC) (n : Nat) (es : List Expr) (ks : List Keyword) (V : View) (fv : Value) (P : List Prop) : FP := two (pas g n es V) (pks g n V ks) fun z' z'' => (gc fv z'.1 z''.1 V.objs).map fun u => (u.1, u.2.1, P ++ (z'.2 ++ (z''.2 ++ u.2.2)))
noncomputable def geCall (g : Cfg) (gc : GC) (n : Nat) (x : Str) (es : List Expr) (ks : List Keyword) (V : View) : FP := if es.all noStar then (peName g x V).bind fun z => (isV z.1).bind fun fv => if fv = .type "collections.deque" then geDq g x es ks V z.2 else geApp g gc n es ks V fv z.2 else none
set_option backward.match.sparseCases false in
noncomputable def orG (V : View) (z : FP) (y : FP) : FP := match z with
  | some z => some (z.1, z.2.1, z.2.2 ++ [z.2.1.length = V.objs.length])
  | none => y
set_option backward.match.sparseCases false in
noncomputable def geB (g : Cfg) (gc : GC) (n : Nat) (e : Expr) (V : View) : FP := match e with
  | .Call f es ks _ => (nameIn f).bind fun y => geCall g gc n y.1 es ks V
  | _ => none
noncomputable def ge (g : Cfg) (gc : GC) (n : Nat) (e : Expr) (V : View) : FP := orG V (pf g n e V) (geB g gc n e V)
section
variable {c : Fc} {g : Cfg} {gc : GC}
theorem pks_sound (ok : c.Ok) (gk : CfgOk c g) {n : Nat} {V : View} {ks : List Keyword} : ∀ {kw : List (Str × PV)} {P : List Prop}, pks g n V ks = some (kw, P) → AllP P → KwOk c ks V kw := by
  induction ks with
  | nil => intro kw P h _; cases h; exact kw_nil
  | cons k r ih =>
    intro kw P h hP
    obtain ⟨x, hx, h⟩ := ob h
    obtain ⟨z, z', h1, h2, h⟩ := two_is h
    cases h
    rw [AllP.append] at hP
    obtain ⟨ka, kv, kp⟩ := k
    cases hx
    exact kw_cons ok ((pe_ok ok gk n).e _ _ _ h1 hP.1) (ih h2 hP.2)
theorem geApp_sound (ok : c.Ok) (gk : CfgOk c g) (gco : GcOk c gc) {n : Nat} {x : Str} {px pos : Pos} {es : List Expr} {ks : List Keyword} {V : View} {p : PV} {objs : List PO} {P R : List Prop} {fv : Value} (hs : es.all noStar = true) (hx : EvOk c (.Name x px) V (.v fv) V) (h : geApp g gc n es ks V fv R = some (p, objs, P)) (hP : AllP P) : EvG c (.Call (.Name x px) es ks pos) V p ⟨V.loc, objs⟩ := by
  obtain ⟨z', z'', h2, h3, h⟩ := two_is h
  obtain ⟨u, e1, e2⟩ := map_some h
  cases e2
  rw [AllP.append, AllP.append, AllP.append] at hP
  obtain ⟨k1, k2⟩ := gco _ _ _ _ _ _ _ e1
  exact evg_call ok hx k1 hs ((pe_ok ok gk n).as _ _ _ h2 hP.2.1) (pks_sound ok gk h3 hP.2.2.1) (k2 hP.2.2.2)
theorem geCall_sound (ok : c.Ok) (gk : CfgOk c g) (gco : GcOk c gc) {n : Nat} {x : Str} {px pos : Pos} {es : List Expr} {ks : List Keyword} {V : View} {p : PV} {objs : List PO} {P : List Prop} (h : geCall g gc n x es ks V = some (p, objs, P)) (hP : AllP P) : EvG c (.Call (.Name x px) es ks pos) V p ⟨V.loc, objs⟩ := by
  obtain ⟨hs, h⟩ := oi h
  obtain ⟨z, h1, h⟩ := ob h
  obtain ⟨fv, hf, h⟩ := ob h
  by_cases hd : fv = .type "collections.deque"
  · rw [if_pos hd] at h
    obtain ⟨hq, h⟩ := oi h
    simp only [Bool.and_eq_true] at hq
    obtain ⟨⟨⟨⟨q1, q2⟩, q3⟩, q4⟩, q5⟩ := hq
    cases h
    rw [List.isEmpty_iff.mp q1, List.isEmpty_iff.mp q2]
    exact evg_deque ok ((kind_of gk x).trans (beq_iff_eq.mp q3)) (by simpa using q5) (gk.glob _ _ (beq_iff_eq.mp q4))
  · rw [if_neg hd] at h
    have h1 := peName_sound (pos := px) ok gk h1
    rw [isV_is hf] at h1
    exact geApp_sound ok gk gco hs h1 h hP
theorem ge_sound (ok : c.Ok) (gk : CfgOk c g) (gco : GcOk c gc) {n : Nat} {e : Expr} {V : View} {p : PV} {objs : List PO} {P : List Prop} (h : ge g gc n e V = some (p, objs, P)) (hP : AllP P) : EvG c e V p ⟨V.loc, objs⟩ := by
  have h : orG V (pf g n e V) (geB g gc n e V) = some (p, objs, P) := h
  cases h1 : pf g n e V with
  | some z =>
    rw [h1] at h
    cases h
    rw [AllP.append] at hP
    exact ((pf_ok ok gk n).e _ _ _ _ _ h1 hP.1).g ok hP.2.1
  | none =>
    rw [h1] at h
    cases e with
    | Call f es ks pos =>
      obtain ⟨y, hy, h⟩ := ob h
      rw [nameIn_is hy]
      exact geCall_sound ok gk gco h hP
    | _ => exact no h
end
set_option backward.match.sparseCases false in
noncomputable def orS (V : View) (z : SP) (y : SP) : SP := match z with
  | some z => some (z.1, z.2.1, z.2.2.1, z.2.2.2 ++ [z.2.2.1.objs.length = V.objs.length])
  | none => y
set_option backward.match.sparseCases false in
noncomputable def gxTgt (g : Cfg) (ds : Ds) (V : View) (z : PV × List PO × List Prop) : Tgt → SP
  | .name x => if g.scope.names.lookup x == some .local then some (.next, ds, ⟨put x z.1 V.loc, z.2.1⟩, z.2.2) else none
  | .attr y _ a => (peName g y ⟨V.loc, z.2.1⟩).bind fun z' => (isO z'.1).bind fun k => (setAt g z.2.1 a k z.1).map fun o => (.next, ds, ⟨V.loc, o⟩, z.2.2 ++ z'.2)
  | .tup _ => none
set_option backward.match.sparseCases false in
noncomputable def gxRet (F : Expr → View → FP) (ds : Ds) (V : View) : Option Expr → SP
  | some e => (F e V).map fun z => (.ret z.1, ds, ⟨V.loc, z.2.1⟩, z.2.2)
  | none => none
set_option backward.match.sparseCases false in
noncomputable def gxB (g : Cfg) (gc : GC) (n : Nat) (X : List Stmt → Ds → View → SP) (st : Stmt) (ds : Ds) (V : View) : SP := match st with
  | .Assign ts e _ => (one ts).bind fun t => (tgtOf t).bind fun tg => if notComp e then (ge g gc n e V).bind fun z => gxTgt g ds V z tg else none
  | .If t b e _ => (pt g n t V).bind fun z => sxIf X b e V z ds
  | .Return e _ => gxRet (ge g gc n) ds V e
  | _ => none
set_option backward.match.sparseCases false in
mutual
noncomputable def gx (g : Cfg) (gc : GC) : Nat → Stmt → Ds → View → SP
  | 0, _, _, _ => none
  | n + 1, st, ds, V => orS V (sx g (n + 1) st ds V) (gxB g gc n (fun b ds V => gxs g gc n b ds V) st ds V)
noncomputable def gxs (g : Cfg) (gc : GC) : Nat → List Stmt → Ds → View → SP
  | 0, _, _, _ => none
  | n + 1, b, ds, V => xsB (fun st ds V => gx g gc n st ds V) (fun b ds V => gxs g gc n b ds V) b ds V
end
noncomputable def Gs (c : Fc) (g : Cfg) (gc : GC) : Prop := ∀ T ρ, (c.at T ρ).Ok → CfgOk (c.at T ρ) g ∧ GcOk (c.at T ρ) gc
section
variable {c : Fc} {g : Cfg} {gc : GC}
theorem exg_nil {V : View} (ok : c.Ok) : ExG c [] V .next V := ex_nil.g ok rfl
structure GxK (c : Fc) (g : Cfg) (gc : GC) (n : Nat) : Prop where
  s : ∀ T ρ, (c.at T ρ).Ok → ∀ st ds V f ds' V' P, gx g gc n st ds V = some (f, ds', V', P) → AllP P → SxG (c.at T ρ) st V f V'
  b : ∀ T ρ, (c.at T ρ).Ok → ∀ b ds V f ds' V' P, gxs g gc n b ds V = some (f, ds', V', P) → AllP P → ExG (c.at T ρ) b V f V'
theorem gxs_step {n : Nat} (ih : GxK c g gc n) : ∀ T ρ, (c.at T ρ).Ok → ∀ b ds V f ds' V' P, gxs g gc (n + 1) b ds V = some (f, ds', V', P) → AllP P → ExG (c.at T ρ) b V f V' := by
  intro T ρ ok b ds V f ds' V' P h hP
  cases b with
  | nil => cases h; exact exg_nil ok
  | cons st r =>
    rcases xsB_is (show xsB (fun st ds V => gx g gc n st ds V) (fun b ds V => gxs g gc n b ds V) (st :: r) ds V = some (f, ds', V', P) from h) with ⟨_, _, _, _, h1, h2, rfl⟩ | ⟨h1, hn⟩
    · rw [AllP.append] at hP
      exact exg_cons (ih.s T ρ ok _ _ _ _ _ _ _ h1 hP.1) fun T' ρ' ok' => ih.b T' ρ' ok' _ _ _ _ _ _ _ h2 hP.2
    · exact exg_stop (ih.s T ρ ok _ _ _ _ _ _ _ h1 hP) hn
theorem sxg_set {y n : Str} {e : Expr} {py pos' pos : Pos} {k : Nat} {C : Addr} {att : List (Str × PV)} {V V1 : View} {p : PV} (he : EvG c e V p V1) (hy : ∀ T ρ, (c.at T ρ).Ok → EvOk (c.at T ρ) (.Name y py) V1 (.o k) V1) (ho : V1.objs[k]? = some (.inst C att)) (hs : setOk c.K C n = true) (hz : att.length ≤ 900) (hc : notComp e = true) :
    SxG c (.Assign [.Attribute (.Name y py) n pos'] e pos) V .next { V1 with objs := V1.objs.set k (.inst C (put n p att)) } := by
  intro s Q E I l h
  refine plainObj_wpAny_Assign_Attribute (he s _ E I l fun s1 v T ρ g l1 I1 t1 i1 => ?_) (swaps_no hc)
  refine hy T ρ g.ok s1 _ E I1 fun s2 u I2 t2 i2 => ?_
  obtain ⟨a, m, rfl, e⟩ := i2.io
  exact set_attr (c := c.at T ρ) g.ok I2 e ho hs hz (i1.st (c := c.at T ρ) g.ok t2) fun s3 I3 t3 => h s3 _ T ρ g (by simpa using l1) I3 (g.keep t1 (t2.trans t3)) rfl
theorem gx_assign (G : Gs c g gc) {n : Nat} {T : List Addr} {ρ : List (Addr × Addr)} (ok : (c.at T ρ).Ok) {t e : Expr} {pos : Pos} {tg : Tgt} {z : PV × List PO × List Prop} {ds ds' : Ds} {V V' : View} {f : PF} {P : List Prop} (ht : TgtIs t tg) (hc : notComp e = true) (h1 : ge g gc n e V = some z) (h : gxTgt g ds V z tg = some (f, ds', V', P)) (hP : AllP P) : SxG (c.at T ρ) (.Assign [t] e pos) V f V' := by
  obtain ⟨gk, gco⟩ := G T ρ ok
  have ie := ge_sound (c := c.at T ρ) ok gk gco h1
  cases tg with
  | name x =>
    obtain ⟨q, rfl⟩ := ht
    obtain ⟨hl, h⟩ := oi h
    cases h
    exact sxg_assign ((kind_of gk _).trans (beq_iff_eq.mp hl)) (ie hP) hc
  | attr y py a =>
    obtain ⟨q, rfl⟩ := ht
    obtain ⟨z', h2, h⟩ := ob h
    obtain ⟨k, hk, h⟩ := ob h
    obtain ⟨o, e1, e2⟩ := map_some h
    cases e2
    rw [AllP.append] at hP
    obtain ⟨C, att, o1, o2, o3, rfl⟩ := setAt_is gk e1
    refine sxg_set (c := c.at T ρ) (ie hP.1) (fun T' ρ' ok' => ?_) o1 o2 o3 hc
    have h2 := peName_sound (pos := py) ok' (G T' ρ' ok').1 h2
    rw [isO_is hk] at h2
    exact h2
  | tup ts => exact no h
theorem gxB_step (G : Gs c g gc) {n : Nat} (ih : GxK c g gc n) {T : List Addr} {ρ : List (Addr × Addr)} (ok : (c.at T ρ).Ok) {st : Stmt} {ds ds' : Ds} {V V' : View} {f : PF} {P : List Prop} (h : gxB g gc n (fun b ds V => gxs g gc n b ds V) st ds V = some (f, ds', V', P)) (hP : AllP P) : SxG (c.at T ρ) st V f V' := by
  obtain ⟨gk, gco⟩ := G T ρ ok
  cases st with
  | Assign ts e pos =>
    obtain ⟨t, ht, h⟩ := ob h
    obtain ⟨tg, htg, h⟩ := ob h
    obtain ⟨hc, h⟩ := oi h
    obtain ⟨z, h1, h⟩ := ob h
    rw [one_is ht]
    exact gx_assign G ok (tgt_is htg) hc h1 h hP
  | If t b e pos =>
    obtain ⟨z, h1, h⟩ := ob h
    obtain ⟨d, ds1, Q, q1, rfl, h2, q2⟩ := sxIf_is h hP
    exact sxg_if ((pe_ok (V := V) ok gk n).t _ _ _ h1 q1) (ih.b T ρ ok _ _ _ _ _ _ _ h2 q2)
  | Return e pos => cases e with
    | some e =>
      obtain ⟨z, e1, e2⟩ := map_some h
      cases e2
      exact sxg_return (ge_sound (c := c.at T ρ) ok gk gco e1 hP)
    | none => exact no h
  | _ => exact no h
theorem gx_step (G : Gs c g gc) {n : Nat} (ih : GxK c g gc n) : ∀ T ρ, (c.at T ρ).Ok → ∀ st ds V f ds' V' P, gx g gc (n + 1) st ds V = some (f, ds', V', P) → AllP P → SxG (c.at T ρ) st V f V' := by
  intro T ρ ok st ds V f ds' V' P h hP
  have h : orS V (sx g (n + 1) st ds V) (gxB g gc n (fun b ds V => gxs g gc n b ds V) st ds V) = some (f, ds', V', P) := h
  cases h1 : sx g (n + 1) st ds V with
  | some z =>
    rw [h1] at h
    obtain ⟨zf, zd, zV, zP⟩ := z
    cases h
    rw [AllP.append] at hP
    exact ((sx_ok ok (G T ρ ok).1 _).s _ _ _ _ _ _ _ h1 hP.1).g ok hP.2.1
  | none =>
    rw [h1] at h
    exact gxB_step G ih ok h hP
theorem gx_ok (G : Gs c g gc) : ∀ n : Nat, GxK c g gc n
  | 0 => ⟨(fun _ _ _ _ _ _ _ _ _ _ h => no h), (fun _ _ _ _ _ _ _ _ _ _ h => no h)⟩
  | n + 1 => let ih := gx_ok G n; ⟨gx_step G ih, gxs_step ih⟩
end
noncomputable def gxr (g : Cfg) (gc : GC) (n : Nat) (b : List Stmt) (ds : Ds) (V : View) : Option (PF × List PO × List Prop) := (gxs g gc n b ds V).map fun z => (z.1, z.2.2.1.objs, z.2.2.2)
theorem gxr_ok {g : Cfg} {gc : GC} {n : Nat} {b : List Stmt} {ds : Ds} {V : View} {f : PF} {objs : List PO} {P : List Prop} (h : gxr g gc n b ds V = some (f, objs, P)) : ∃ ds' V', gxs g gc n b ds V = some (f, ds', V', P) ∧ V'.objs = objs := by
  obtain ⟨⟨zf, zd, zV, zP⟩, e, h⟩ := map_some h
  cases h; exact ⟨_, _, e, rfl⟩
theorem gs_of {W : Wd} {D : Nat} {scope : Scope} {t : Tabs} {po : POrc W D} {eo : Orc W D} {go : GOrc W D} {c : Fc} (ok : c.Ok) (e : c.toWd = W) (room : Room c.A.in1 D) (hD1 : 1 ≤ D) (hs : c.env.scope = scope) (ht : t.Ok W) : Gs c (mkCfg scope t po eo) go.fn := fun T ρ ok' => ⟨mkCfg_ok (c := c.at T ρ) ok' e room hD1 hs ht, go.gc (c := c.at T ρ) ok' e room⟩
theorem spec_runG {W : Wd} {D : Nat} {f : Addr} {ps : List PV} {kw : List (Str × PV)} {objs objs' : List PO} {fl : PF} {loc : List (Str × PV)} {t : Tabs} {po : POrc W D} {eo : Orc W D} {go : GOrc W D} {n : Nat} {ds : Ds} {P : List Prop}
    (hD : 1 ≤ D) (hd : (isDef W.K f (fdOf W.K f) && hasBody (fdOf W.K f)) = true) (ht : t.Ok W)
    (hbind : ∀ (T : List Addr) (ρ : List (Addr × Addr)) (s : Shared) (vs : List Value) (kvs : List (Str × Value)), Base W.K W.N s.heap → (∀ b ∈ T, W.N ≤ b) → IsL T ρ s.heap ps vs → kvs.map (·.1) = kw.map (·.1) → IsL T ρ s.heap (kw.map (·.2)) (kvs.map (·.2)) →
      ∀ (A : Around) (E : Value → Shared → Prop) (Q : List (Str × Value) → Shared → Prop), (∀ binds s1, BindOk W T ρ (fdOf W.K f) loc s binds s1 → Q binds s1) → wpAny (model W.prog W.w) A (bindArgs (fdOf W.K f) ⟨vs, kvs⟩) Q E s)
    (run : gxr (mkCfg (fdOf W.K f).scope t po eo) go.fn n (bodyOf (fdOf W.K f)) ds ⟨loc, objs⟩ = some (fl, objs', P)) (hP : AllP P) : SpecK W (D + 1) (.ref f) ps kw objs (retP fl) objs' := by
  obtain ⟨ds', V', run, ho⟩ := gxr_ok run
  exact call_defB (defIs_of hd) hbind fun c ok e room hs => ⟨V', (gx_ok (gs_of ok e room hD hs ht) n).b c.T c.ρ ok _ _ _ _ _ _ _ run hP, ho⟩
end M20
section M21
noncomputable def SpecP (W : Wd) (D : Nat) (f : Value) (ps : List PV) (r : PV) : Prop := ∀ objs, Spec W D f ps objs r objs
theorem SpecP.le {W : Wd} {D D' : Nat} {f : Value} {ps : List PV} {r : PV} (h : SpecP W D f ps r) (hd : D ≤ D') : SpecP W D' f ps r := fun objs => (h objs).le hd
theorem spec_pure {W : Wd} {D : Nat} {f : Value} {ps : List PV} {r : PV} {objs' : List PO} (h : SpecK W D f ps [] [] r objs') (hp : PV.ltL 0 ps = true) (hr : r.lt 0 = true) : SpecP W D f ps r := by
  rintro objs c ok rfl room s vs Q E B live frs O ia hq
  let c0 : Fc := { c with ρ := [] }
  have ok0 : c0.Ok := ⟨⟨fun b hb => ok.fx.mem b (by rcases List.mem_cons.mp hb with rfl | hb; exact .head _; cases hb), by show [c.L].Nodup; simp, ok.fx.low⟩, ok.kind, ok.loc, ok.glb, ok.blt, ok.lowK, ok.lo⟩
  have ia0 : IsL c.T [] s.heap ps vs := IsL.back (T := c.T) (T' := c.T) (ρ := []) (ν := c.ρ) (fun _ h => h) (by simpa using ia) hp
  refine wpAny_call (h c0 ok0 rfl room s vs [] _ B live frs (fun k po e => by simp at e) rfl ia0 rfl .nil fun s' v T ρ g l st B' F' live' O' i' => ?_)
  have st0 : St c.N [] s s' := ⟨st.keep, st.gens, st.os⟩
  refine hq s' v st0.all B' F' (fun k po e => (O k po e).keep st0.keep (fun _ _ _ z => nomatch z) (fun _ z => nomatch z) st0.keep.all) ?_
  obtain ⟨ν, e1, _⟩ := g.ext
  have e1 : ρ = [] ++ ν := e1
  subst e1
  have i0 : Is c.T [] s'.heap r v := Is.back (T := c.T) (ρ := []) (fun b hb => g.sub b hb) i' hr
  have := Is.grow (T := c.T) (T' := c.T) (ρ := []) (ν := c.ρ) (fun b hb => .inl hb) i0
  simpa using this
end M21
section G1
structure GPre (W : Wd) (A : Around) (C I l : Addr) (vs : List Value) (i : Nat) (s : Shared) : Prop where
  base : Base W.K W.N s.heap
  frs : Frs W.N A s.heap
  it : s.heap.IsListIter I l i
  list : s.heap.IsList l vs.toArray
  fr : ∃ m, FrameAt s.heap C m
theorem keep_iter {N : Nat} {F : List Addr} {h h' : Heap} {I l i : Nat} (k : Keep N F h h') (n : I ∉ F) (x : h.IsListIter I l i) : h'.IsListIter I l i := by
  obtain ⟨o, e, c, d⟩ := x
  exact ⟨o, k.exact n e (by rw [c]; decide) (by rw [c]; decide), c, d⟩
theorem keep_list {N : Nat} {F : List Addr} {h h' : Heap} {l : Nat} {vs : Array Value} (k : Keep N F h h') (n : l ∉ F) (x : h.IsList l vs) : h'.IsList l vs := by
  obtain ⟨o, e, c, d⟩ := x
  exact ⟨o, k.exact n e (by rw [c]; decide) (by rw [c]; decide), c, d⟩
theorem GPre.aside {W : Wd} {A : Around} {C I l : Addr} {vs : List Value} {i : Nat} {s s' : Shared} {S : Addr} (lk : lowK W.K W.N = true) (lo : builtinsNs < W.N ∧ cStatics < W.N) (p : GPre W A C I l vs i s) (hS : W.N ≤ S) (hC : C ≠ S) (hI : I ≠ S) (hl : l ≠ S) (hf : ∃ o, s.heap.get? S = some o ∧ o.cls ≠ .type "frame") (k : Keep W.N [S] s.heap s'.heap) : GPre W A C I l vs i s' := by
  have ns : ∀ {x : Addr}, x ≠ S → x ∉ [S] := fun h z => h (List.mem_singleton.mp z)
  obtain ⟨m, fr⟩ := p.fr
  exact ⟨p.base.keep (T := [S]) lk (fun b hb => by rcases List.mem_singleton.mp hb with rfl; exact hS) lo k, p.frs.one k (.inl hf), keep_iter k (ns hI) p.it, keep_list k (ns hl) p.list, m, k.frame (ns hC) fr⟩
structure GStep (W : Wd) (C I : Addr) (s s' : Shared) : Prop where
  off : ∀ b o, b ≠ C → b ≠ I → s.heap.get? b = some o → Same W.N b o (s'.heap.get? b)
  there : ∀ b o, b ≠ I → s.heap.get? b = some o → ∃ o', s'.heap.get? b = some o'
  gens : Gn s.gens s'.gens
  os : s'.os = s.os
theorem GStep.refl {W : Wd} {C I : Addr} (s : Shared) : GStep W C I s s := ⟨fun _ _ _ _ e => by rw [e]; exact .same, fun _ o _ e => ⟨o, e⟩, .refl _, rfl⟩
theorem GStep.trans {W : Wd} {C I : Addr} {s s' s'' : Shared} (x : GStep W C I s s') (y : GStep W C I s' s'') : GStep W C I s s'' :=
  ⟨fun b o h1 h2 e => (x.off b o h1 h2 e).trans fun o' e' => y.off b o' h1 h2 e', fun b o h e => let ⟨o', e'⟩ := x.there b o h e; y.there b o' h e', x.gens.trans y.gens, y.os.trans x.os⟩
theorem GStep.of {W : Wd} {C I : Addr} {F : List Addr} {s s' : Shared} (x : St W.N F s s') (h : ∀ b ∈ F, b = C ∨ b = I) : GStep W C I s s' :=
  ⟨fun b o h1 h2 e => x.keep.off b o (fun z => by rcases h b z with q | q; exact h1 q; exact h2 q) e, fun b o _ e => x.keep.there b o e, x.gens, x.os⟩
noncomputable def gProto (W : Wd) (A : Around) (C I l : Addr) (vs : List Value) (ts : List Str) (f : Str → Str) : Protocol := fun m s₀ v s kap =>
  ∃ i, ts.length = i + 1 + m ∧ GStep W C I s₀ s ∧ (∃ x t, ts[i]? = some x ∧ v = .str (f x) t) ∧ GPre W A C I l vs (i + 1) s ∧ ∀ s'', GPre W A C I l vs (i + 1) s'' → kap (.send .none) s''
noncomputable abbrev GFin (W : Wd) (A : Around) (C I l : Addr) (vs : List Value) : GenEnd := fun n s₀ r s₁ => r = .ok .next ∧ n = 0 ∧ GStep W C I s₀ s₁ ∧ Base W.K W.N s₁.heap ∧ Frs W.N A s₁.heap
structure GEnv (W : Wd) (C I : Addr) (cenv : Env) (x : Str) : Prop where
  loc : cenv.locals = C
  fr : cenv.frame = some C
  kind : cenv.scope.kind = .function
  glb : cenv.globals = mainGlobals
  blt : cenv.builtins = builtinsNs
  co : cenv.scope.isCoroutine = false
  x : cenv.kindOf x = some .local
  lowK : lowK W.K W.N = true
  lo : builtinsNs < W.N ∧ cStatics < W.N
  low : W.N ≤ C
  lowI : W.N ≤ I
noncomputable def GElt (W : Wd) (D : Nat) (cenv : Env) (x : Str) (elt : Expr) (ts : List Str) (f : Str → Str) : Prop := ∀ c : Fc, c.Ok → c.toWd = W → Room c.A D → c.env.scope = cenv.scope → ∀ t ∈ ts, EvOk c elt ⟨[(x, .s t)], []⟩ (.s (f t)) ⟨[(x, .s t)], []⟩
section
variable {W : Wd} {A : Around} {C I l : Addr} {vs : List Value} {ts : List Str} {f : Str → Str} {cenv : Env} {x : Str} {D : Nat}
theorem frs_in (Ev : GEnv W C I cenv x) {h : Heap} {m : Str → Option Value} {A' : Around} (F : Frs W.N A h) (fr : FrameAt h C m) (hA : A'.frames = A.frames.map (cenv :: ·)) : Frs W.N A' h := by
  obtain ⟨fs, e, hf⟩ := F
  refine ⟨cenv :: fs, by rw [hA, e]; rfl, fun env he => ?_⟩
  rcases List.mem_cons.mp he with rfl | he
  · exact ⟨by rw [Ev.kind]; decide, C, m, Ev.fr, Ev.low, fr⟩
  · exact hf env he
theorem frs_out {h : Heap} {A' : Around} (F : Frs W.N A' h) (hA : A'.frames = A.frames.map (cenv :: ·)) (hs : A.frames.isSome = true) : Frs W.N A h := by
  obtain ⟨fs, e, hf⟩ := F
  obtain ⟨fs0, e0⟩ := Option.isSome_iff_exists.mp hs
  rw [hA, e0] at e
  cases e
  exact ⟨fs0, e0, fun env he => hf env (.tail _ he)⟩
theorem strs_get {vs : List Value} {ts : List Str} (h : StrsAre vs ts) {i : Nat} {t : Str} (e : ts[i]? = some t) : ∃ u, vs[i]? = some (.str t u) := StrsAre.get h i t e
theorem base_frs_off (Ev : GEnv W C I cenv x) {i : Nat} {s : Shared} {h' : Heap} (P : GPre W A C I l vs i s) (xb : Heap.ExtBut I s.heap h') : Base W.K W.N h' ∧ Frs W.N A h' := by
  have ns : ∀ {L : Addr} {m : Str → Option Value}, L ≠ I → s.heap.Ns L m → h'.Ns L m := fun hL hn => hn.at' fun o e => xb _ o hL e
  refine ⟨⟨fun a o e => xb a o (Nat.ne_of_lt (Nat.lt_of_lt_of_le (lowK_at Ev.lowK e).1 Ev.lowI)) (P.base.k a o e), ?_, ?_, fun a o q e t => ?_⟩, ?_⟩
  · obtain ⟨mb, h1, h2⟩ := P.base.b
    exact ⟨mb, ns (Nat.ne_of_lt (Nat.lt_of_lt_of_le Ev.lo.1 Ev.lowI)) h1, h2⟩
  · exact P.base.lim.extBut xb (Nat.ne_of_lt (Nat.lt_of_lt_of_le Ev.lo.2 Ev.lowI))
  · obtain ⟨ps, h1, h2⟩ := P.base.tab a o q e t
    exact ⟨ps, xb _ _ (Nat.ne_of_lt (Nat.lt_of_lt_of_le ((lowK_at Ev.lowK e).2.2 q t).1 Ev.lowI)) h1, h2⟩
  · obtain ⟨oI, eI, cI, _⟩ := P.it
    obtain ⟨fs, e, hf⟩ := P.frs
    refine ⟨fs, e, fun env he => ?_⟩
    obtain ⟨h1, L, m, h2, h3, h4⟩ := hf env he
    have hL : L ≠ I := fun q => by
      subst q
      obtain ⟨o, ho, hc⟩ := h4.cls
      rw [eI] at ho; cases ho
      rw [cI] at hc; exact absurd hc (by decide)
    obtain ⟨o, ho, hc⟩ := h4.cls
    exact ⟨h1, L, m, h2, h3, ns hL h4.ns, o, xb _ o hL ho, hc⟩
noncomputable abbrev genC (W : Wd) (A : Around) (cenv : Env) (C : Addr) : Fc := { toWd := W, A := A, env := cenv, T := [C], ρ := [], L := C }
theorem gen_ok (Ev : GEnv W C I cenv x) : (genC W A cenv C).Ok := ⟨⟨fun b hb => hb, by show [C].Nodup; simp, fun b hb => by rcases List.mem_singleton.mp hb with rfl; exact Ev.low⟩, Ev.kind, Ev.loc, Ev.glb, Ev.blt, Ev.lowK, Ev.lo⟩
theorem gen_keep {h h₁ h₂ : Heap} (kI : Keep W.N [I] h h₁) (kC : Keep W.N [C] h₁ h₂) : Keep W.N [C, I] h h₂ := (kI.sub (fun b hb => by rcases List.mem_singleton.mp hb with rfl; exact .tail _ (.head _))).trans (kC.sub fun b hb => by rcases List.mem_singleton.mp hb with rfl; exact .head _)
theorem gen_in {A' : Around} {h₁ h₂ : Heap} {i n : Nat} {s : Shared} {t : Str} {u : Tok} {m : Str → Option Value} (Ev : GEnv W C I cenv x) (hA : A'.frames = A.frames.map (cenv :: ·)) (P : GPre W A C I l vs i s) (kI : Keep W.N [I] s.heap h₁) (kC : Keep W.N [C] h₁ h₂) (fr₂ : FrameAt h₂ C (fun y => if y = x then some (.str t u) else m y)) : Inv (genC W A' cenv C) ⟨[(x, .s t)], []⟩ { s with heap := h₂, toks := n } := by
  have F₁ : Frs W.N A h₁ := P.frs.one kI (.inl (by obtain ⟨o, e, c, _⟩ := P.it; exact ⟨o, e, by rw [c]; decide⟩))
  refine ⟨⟨⟨_, fr₂, fun y p e => ?_⟩, fun k po e => no e⟩, P.base.keep Ev.lowK (fun b hb => ?_) Ev.lo (gen_keep kI kC), fun b hb => ?_, frs_in Ev (F₁.one kC (.inr ⟨_, fr₂⟩)) fr₂ hA⟩
  · have e : (match y == x with | true => some (PV.s t) | false => none) = some p := e
    by_cases g : y = x
    · rw [beq_iff_eq.mpr g] at e; cases e
      exact ⟨.str t u, if_pos g, .s _ _⟩
    · rw [beq_eq_false_iff_ne.mpr g] at e; exact no e
  · rcases List.mem_cons.mp hb with rfl | hb
    · exact Ev.low
    · rcases List.mem_singleton.mp hb with rfl; exact Ev.lowI
  · rcases List.mem_singleton.mp hb with rfl
    obtain ⟨o, e, _⟩ := fr₂.cls
    exact ⟨o, e⟩
theorem gen_out {A' : Around} {h₁ h₂ : Heap} {i n : Nat} {s₀ s s₃ : Shared} {V : View} (Ev : GEnv W C I cenv x) (hfr : A.frames.isSome = true) (hA : A'.frames = A.frames.map (cenv :: ·)) (hCI : C ≠ I) (hCl : C ≠ l) (hIl : I ≠ l) (P : GPre W A C I l vs i s) (it₁ : h₁.IsListIter I l (i + 1)) (kI : Keep W.N [I] s.heap h₁) (kC : Keep W.N [C] h₁ h₂) (st : GStep W C I s₀ s)
    (I₃ : Inv (genC W A' cenv C) V s₃) (t₃ : St W.N [C] { s with heap := h₂, toks := n } s₃) : GPre W A C I l vs (i + 1) s₃ ∧ GStep W C I s₀ s₃ := by
  obtain ⟨m₃, fr₃, _⟩ := I₃.rep.ns
  have kIs := gen_keep kI kC
  refine ⟨⟨I₃.base, frs_out I₃.frs hA hfr, keep_iter t₃.keep (fun z => hCI (List.mem_singleton.mp z).symm) (keep_iter kC (fun z => hCI (List.mem_singleton.mp z).symm) it₁), keep_list t₃.keep (fun z => hCl (List.mem_singleton.mp z).symm) (keep_list kIs (fun z => ?_) P.list), m₃, fr₃⟩, st.trans ((GStep.of (s' := { s with heap := h₂, toks := n }) ⟨kIs, .refl _, rfl⟩ (fun b hb => ?_)).trans (GStep.of t₃ (fun b hb => .inl (List.mem_singleton.mp hb))))⟩
  · rcases List.mem_cons.mp z with z | z
    · exact hCl z.symm
    · exact hIl (List.mem_singleton.mp z).symm
  · rcases List.mem_cons.mp hb with z | z
    · exact .inl z
    · exact .inr (List.mem_singleton.mp z)
theorem gen_end (Ev : GEnv W C I cenv x) {i : Nat} {s₀ s : Shared} {h' : Heap} (P : GPre W A C I l vs i s) (st : GStep W C I s₀ s) (xb : Heap.ExtBut I s.heap h') : GFin W A C I l vs 0 s₀ (.ok .next) { s with heap := h' } := by
  refine ⟨rfl, rfl, st.trans ⟨fun b o _ h2 e => ?_, fun b o hb e => ⟨o, xb b o hb e⟩, .refl _, rfl⟩, base_frs_off Ev P xb⟩
  show Same _ _ _ (h'.get? b)
  rw [xb b o h2 e]; exact .same
theorem gen_seg {elt iter : Expr} {px : Pos} {scope : Scope} {pos : Pos} (hh : A.handled = none) (hfr : A.frames.isSome = true) (Ev : GEnv W C I cenv x) (hts : StrsAre vs ts) (hCI : C ≠ I) (hCl : C ≠ l) (hIl : I ≠ l)
    (room : Room (A.over (.compLoop (.GeneratorExp elt [⟨.Name x px, iter, [], 0⟩] scope pos) 0 (.ref I) .none cenv) []) D) (he : GElt W D cenv x elt ts f) :
    ∀ (k i : Nat) (s₀ s : Shared), ts.length - i = k → i ≤ ts.length → GPre W A C I l vs i s → GStep W C I s₀ s →
      Seg (model W.prog W.w) A (GFin W A C I l vs) (gProto W A C I l vs ts f) (ts.length - i) s₀ (.compLoop (.GeneratorExp elt [⟨.Name x px, iter, [], 0⟩] scope pos) 0 (.ref I) .none cenv)
        ((model W.prog W.w).den (.compLoop (.GeneratorExp elt [⟨.Name x px, iter, [], 0⟩] scope pos) 0 (.ref I) .none cenv)) [] s := by
  intro k
  have hlen : vs.length = ts.length := hts.length
  induction k with
  | zero =>
    intro i s₀ s hk hi P st
    have hin : i = ts.length := Nat.le_antisymm hi (Nat.sub_eq_zero_iff_le.mp hk)
    rw [hk]
    show Seg _ A _ _ _ s₀ _ ((compTurn (.GeneratorExp elt [⟨.Name x px, iter, [], 0⟩] scope pos) 0 (.ref I) .none cenv).onRaise (leaving cenv)) [] s
    rw [compTurn_gen, Sem.onRaise_eq_wrap]
    refine seg_bind_wrap (wpAny_standAt ?_)
    refine seg_bind_wrap (wpAny_pyNext_list_end hh P.it P.list (by simp [hlen, hin]) fun h' xb => ?_)
    exact seg_end (.ok .next) (gen_end Ev P st xb)
  | succ k ih =>
    intro i s₀ s hk hi P st
    have hlt : i < ts.length := nlt hk
    show Seg _ A _ _ _ s₀ _ ((compTurn (.GeneratorExp elt [⟨.Name x px, iter, [], 0⟩] scope pos) 0 (.ref I) .none cenv).onRaise (leaving cenv)) [] s
    rw [compTurn_gen, Sem.onRaise_eq_wrap]
    refine seg_bind_wrap (wpAny_standAt ?_)
    obtain ⟨u, hv⟩ := strs_get hts (List.getElem?_eq_getElem hlt)
    refine seg_bind_wrap (wpAny_pyNext_list_item P.it P.list (x := .str ts[i] u) (by simpa using hv) fun h₁ it₁ sb₁ => ?_)
    refine seg_bind_wrap (wpAny_of_eq (rfl : letOwnedTupleGo (.Name x px) (.ref I) _ = pure ()) ?_)
    refine seg_bind_wrap (assign_Name ?_)
    have hp : (cenv.scope.kind == .class || (cenv.scope.kind == .module && cenv.locals != cenv.globals)) = false := by rw [Ev.kind]; rfl
    rw [storeName_local Ev.x hp, Ev.loc]
    obtain ⟨m, fr⟩ := P.fr
    have kI : Keep W.N [I] s.heap h₁ := by
      obtain ⟨o1, e1, _⟩ := it₁
      exact .sameBut sb₁ e1 (.head _)
    have fr₁ : FrameAt h₁ C m := kI.frame (fun z => hCI (List.mem_singleton.mp z)) fr
    refine nsSet_frame fr₁ fun h₂ fr₂ sb₂ => ?_
    have kC : Keep W.N [C] h₁ h₂ := by
      obtain ⟨o2, e2, _⟩ := fr₂.cls
      exact .sameBut sb₂ e2 (.head _)
    simp only [List.forIn_nil]
    refine seg_bind_wrap (wpAny_pure ?_)
    simp only [if_true]
    have hy : ∀ v, yieldOut cenv v = yieldValue v := fun v => by simp only [yieldOut, Ev.co, Bool.false_eq_true, if_false]
    simp only [hy]
    rw [Sem.bind_eq_wrap', Sem.bind_eq_wrap', Sem.wrap_wrap, Sem.wrap_wrap, npred hlt]
    refine seg_wrap (he (genC W _ cenv C) (gen_ok Ev) rfl room rfl ts[i] (List.getElem_mem hlt) _ _ _ (gen_in Ev rfl P kI kC fr₂) fun s₃ v I₃ t₃ i₃ => ?_)
    obtain ⟨t, rfl⟩ := i₃.is
    obtain ⟨P₃, st₃⟩ := gen_out Ev hfr rfl hCI hCl hIl P it₁ kI kC st I₃ t₃
    refine seg_at (seg_yield rfl rfl rfl ⟨i, nsum hlt, st₃, ⟨ts[i], t, List.getElem?_eq_getElem hlt, rfl⟩, P₃, fun s'' P'' => ?_⟩)
    exact seg_again rfl (ih (i + 1) s'' s'' (nsub hk) hlt P'' (.refl _))
end
end G1
section G2
structure GAt (W : Wd) (A : Around) (C I l : Addr) (vs : List Value) (ts : List Str) (f : Str → Str) (a g i : Nat) (s : Shared) : Prop where
  gen : s.heap.IsGen a g
  st : ∃ gs, s.gens[g]? = some gs ∧ ∀ s'', GPre W A.in1 C I l vs i s'' → gs.Goes (model W.prog W.w) A.in1 (GFin W A.in1 C I l vs) (gProto W A.in1 C I l vs ts f) (ts.length - i) (.send .none) s''
structure Gb (g : Nat) (a b : Array GenState) : Prop where
  size : a.size ≤ b.size
  old : ∀ k, k ≠ g → k < a.size → b[k]? = a[k]?
  bare : (∀ k y, k ≠ g → a[k]? = some y → y.bare = true) → ∀ k y, k ≠ g → b[k]? = some y → y.bare = true
theorem Gb.trans {g : Nat} {a b c : Array GenState} (x : Gb g a b) (y : Gb g b c) : Gb g a c := ⟨Nat.le_trans x.size y.size, fun k h1 h => (y.old k h1 (Nat.lt_of_lt_of_le h x.size)).trans (x.old k h1 h), fun h => y.bare (x.bare h)⟩
theorem setGen_size (s : Shared) (g : Nat) (x : GenState) : (s.setGen g x).gens.size = s.gens.size := by simp [Shared.setGen]
theorem setGen_other (s : Shared) {g k : Nat} (x : GenState) (h : k ≠ g) : (s.setGen g x).gens[k]? = s.gens[k]? := by simp [Shared.setGen, Ne.symm h]
theorem Gb.of {g : Nat} {s s₁ : Shared} {x : GenState} {gs : GenState} (hg : s.gens[g]? = some gs) (h : Gn (s.setGen g .running).gens s₁.gens) : Gb g s.gens (s₁.setGen g x).gens := by
  have hlt : g < s.gens.size := (Array.getElem?_eq_some_iff.mp hg).1
  refine ⟨?_, fun k hk hlt' => ?_, fun hb k y hk hy => ?_⟩
  · rw [setGen_size]; have := h.size; rwa [setGen_size] at this
  · rw [setGen_other _ _ hk, h.old k (by rw [setGen_size]; exact hlt'), setGen_other _ _ hk]
  · rw [setGen_other _ _ hk] at hy
    refine h.bare (fun y hy => ?_) y (Array.mem_of_getElem? hy)
    obtain ⟨j, hj⟩ := Array.getElem?_of_mem hy
    by_cases g' : j = g
    · subst g'
      rw [setGen_self hg] at hj
      cases hj; rfl
    · rw [setGen_other _ _ g'] at hj
      exact hb j y g' hj
structure CStep (W : Wd) (C I : Addr) (g : Nat) (s s' : Shared) : Prop where
  off : ∀ b o, b ≠ C → b ≠ I → s.heap.get? b = some o → Same W.N b o (s'.heap.get? b)
  there : ∀ b o, b ≠ I → s.heap.get? b = some o → ∃ o', s'.heap.get? b = some o'
  gens : Gb g s.gens s'.gens
  os : s'.os = s.os
theorem Same.isGen {N a g : Nat} {o : Obj} {r : Option Obj} (x : Same N a o r) (h1 : o.cls ≠ .type "frame") (h2 : o.cls ≠ .none) : r = some o := by
  cases x with
  | same => rfl
  | slots sl _ hc => exact absurd hc h1
  | tab vs more lt nl q tr => exact absurd (congrArg Obj.cls q) h2
theorem CStep.exact {W : Wd} {C I : Addr} {g : Nat} {s s' : Shared} (x : CStep W C I g s s') {b : Addr} {o : Obj} (h1 : b ≠ C) (h2 : b ≠ I) (e : s.heap.get? b = some o) (c1 : o.cls ≠ .type "frame") (c2 : o.cls ≠ .none) : s'.heap.get? b = some o := (x.off b o h1 h2 e).isGen (g := 0) c1 c2
section
variable {W : Wd} {A : Around} {C I l : Addr} {vs : List Value} {ts : List Str} {f : Str → Str} {cenv : Env} {x : Str} {D a g : Nat}
theorem step_gen {s s₁ : Shared} (h : GStep W C I s s₁) (ha : a ≠ C) (hI : a ≠ I) (x : s.heap.IsGen a g) : s₁.heap.IsGen a g := by
  obtain ⟨o, nm, qn, e, hc, r⟩ := x
  exact ⟨o, nm, qn, (h.off a o ha hI e).isGen (g := 0) (by rw [hc]; decide) (by rw [hc]; decide), hc, r⟩
theorem gen_item (hh : A.handled = none) (hd : A.depth < recursionLimit) (ha : a ≠ C) (hI : a ≠ I) {i : Nat} (hi : i < ts.length) {s : Shared} {Q : Option Value → Shared → Prop} {E : Value → Shared → Prop} (G : GAt W A C I l vs ts f a g i s) (P : GPre W A.in1 C I l vs i s)
    (h : ∀ s' t, GAt W A C I l vs ts f a g (i + 1) s' → GPre W A.in1 C I l vs (i + 1) s' → CStep W C I g s s' → Q (some (.str (f ts[i]) t)) s') : wpAny (model W.prog W.w) A (pyNext (.ref a)) Q E s := by
  obtain ⟨gs, hg, hgo⟩ := G.st
  have P' : GPre W A.in1 C I l vs i (s.setGen g .running) := ⟨P.base, P.frs, P.it, P.list, P.fr⟩
  obtain ⟨m, hm⟩ : ∃ m, ts.length - i = m + 1 := ⟨ts.length - (i + 1), npred hi⟩
  have go := hgo _ P'
  rw [hm] at go
  refine wpAny_pyNext_genexp (n := m + 1) hh P.base.lim hd G.gen hg (P := fun n s₀ s₁ => n = 0 ∧ GStep W C I s₀ s₁ ∧ Base W.K W.N s₁.heap ∧ Frs W.N A.in1 s₁.heap) go (fun v s₁ gs' hY => ?_) (fun s₁ hP => ?_)
  · obtain ⟨i', e1, st, ⟨t, u, e2, rfl⟩, P₁, hk⟩ := hY
    have : i' = i := nsum_eq hm e1
    subst this
    have et : t = ts[i'] := by rw [List.getElem?_eq_getElem hi] at e2; exact (Option.some.inj e2).symm
    subst et
    have hg1 : s₁.gens[g]? = some .running := by
      have hlt : g < s.gens.size := (Array.getElem?_eq_some_iff.mp hg).1
      rw [st.gens.old g (by rw [setGen_size]; exact hlt)]
      exact setGen_self hg
    refine h (s₁.setGen g gs') u ⟨step_gen (s := s.setGen g .running) (s₁ := s₁) st ha hI G.gen, gs', setGen_self hg1, fun s'' P'' => ?_⟩ ⟨P₁.base, P₁.frs, P₁.it, P₁.list, P₁.fr⟩ ⟨st.off, st.there, .of hg st.gens, st.os⟩
    have : ts.length - (i' + 1) = m := nsub hm
    rw [this]
    exact hk s'' P''
  · exact absurd hP.1 (Nat.succ_ne_zero m)
theorem gen_done (hh : A.handled = none) (hd : A.depth < recursionLimit) {s : Shared} {Q : Option Value → Shared → Prop} {E : Value → Shared → Prop} (lk : lowK W.K W.N = true) (lo : builtinsNs < W.N ∧ cStatics < W.N) (G : GAt W A C I l vs ts f a g ts.length s) (P : GPre W A.in1 C I l vs ts.length s)
    (h : ∀ s', Base W.K W.N s'.heap → Frs W.N A s'.heap → s'.gens[g]? = some .finished → CStep W C I g s s' → Q none s') : wpAny (model W.prog W.w) A (pyNext (.ref a)) Q E s := by
  obtain ⟨gs, hg, hgo⟩ := G.st
  have P' : GPre W A.in1 C I l vs ts.length (s.setGen g .running) := ⟨P.base, P.frs, P.it, P.list, P.fr⟩
  have go := hgo _ P'
  rw [Nat.sub_self] at go
  refine wpAny_pyNext_genexp (n := 0) hh P.base.lim hd G.gen hg (P := fun n s₀ s₁ => n = 0 ∧ GStep W C I s₀ s₁ ∧ Base W.K W.N s₁.heap ∧ Frs W.N A.in1 s₁.heap) go (fun v s₁ gs' hY => ?_) (fun s₁ hP h' hk => ?_)
  · obtain ⟨i', e1, _, _, P₁, hk⟩ := hY
    exact (hk s₁ P₁).elim
  · obtain ⟨_, st, B, F⟩ := hP
    have k : Keep W.N [] s₁.heap h' := .of_all hk
    have hg1 : s₁.gens[g]? = some .running := by
      have hlt : g < s.gens.size := (Array.getElem?_eq_some_iff.mp hg).1
      rw [st.gens.old g (by rw [setGen_size]; exact hlt)]
      exact setGen_self hg
    refine h { s₁.setGen g .finished with heap := h' } (B.keep (T := []) lk (fun _ z => nomatch z) lo k) (F.keep k) (setGen_self (x := .finished) hg1) ⟨fun b o h1 h2 e => (st.off b o h1 h2 e).trans fun o' e' => k.off b o' (fun z => nomatch z) e', fun b o hb e => let ⟨o', e'⟩ := st.there b o hb e; k.there b o' e', .of hg st.gens, st.os⟩
theorem gather (hh : A.handled = none) (hd : A.depth < recursionLimit) (lk : lowK W.K W.N = true) (lo : builtinsNs < W.N ∧ cStatics < W.N) (ha : a ≠ C) (hI : a ≠ I) (hz : ts.length ≤ 1000000) {S : Addr} (hSN : W.N ≤ S) (hSC : C ≠ S) (hSI : I ≠ S) (hSl : l ≠ S) (hSa : a ≠ S) {R : Result → Shared → Prop} (res : Value) :
    ∀ (k i : Nat) (s : Shared) (acc : List (Str × Tok)) (c : Nat), ts.length - i = k → i ≤ ts.length → GAt W A.in1 C I l vs ts f a g i s → GPre W A.in1.in1 C I l vs i s → s.heap.get? S = some { cls := .type "list", data := .seq (strValues acc).toArray c } → acc.map (·.1) = (ts.take i).map f →
      (∀ s' acc' c', Base W.K W.N s'.heap → Frs W.N A s'.heap → s'.gens[g]? = some .finished → (∀ b o, b ≠ C → b ≠ I → b ≠ S → s.heap.get? b = some o → Same W.N b o (s'.heap.get? b)) → (∀ b o, b ≠ I → s.heap.get? b = some o → ∃ o', s'.heap.get? b = some o') → Gb g s.gens s'.gens → s'.os = s.os → s'.heap.get? S = some { cls := .type "list", data := .seq (strValues acc').toArray c' } → acc'.map (·.1) = ts.map f → R (.ok (.ret res)) s') →
      codeAny (model W.prog W.w) A (.builtin "list.extend.loop" ⟨[.ref S, .ref a, res], []⟩) R s := by
  have hd1 : A.in1.depth < recursionLimit := hd
  intro k
  induction k with
  | zero =>
    intro i s acc c hk hi G P hS hacc hq
    have hin : i = ts.length := nend hk hi
    subst hin
    refine codeAny_builtin F.entry_extend_loop ?_
    rw [Around.under_plainId F.plain_extend_loop _]
    show wpAny _ A.in1 (pyNext (.ref a) >>= _) _ _ s
    refine wpAny_bind (gen_done (A := A.in1) hh hd1 lk lo G P fun s' B' F' hg st => ?_)
    refine wpAny_pure (hq s' acc c B' F' hg (fun b o h1 h2 _ e => st.off b o h1 h2 e) st.there st.gens st.os (st.exact hSC.symm hSI.symm hS (show Value.type "list" ≠ Value.type "frame" by decide) (show Value.type "list" ≠ Value.none by decide)) ?_)
    rw [hacc, List.take_length]
  | succ k ih =>
    intro i s acc c hk hi G P hS hacc hq
    have hlt : i < ts.length := nlt hk
    refine codeAny_builtin F.entry_extend_loop ?_
    rw [Around.under_plainId F.plain_extend_loop _]
    show wpAny _ A.in1 (pyNext (.ref a) >>= _) _ _ s
    refine wpAny_bind (gen_item (A := A.in1) hh hd1 ha hI hlt G P fun s' t G' P' st => ?_)
    have hS' := st.exact hSC.symm hSI.symm hS (show Value.type "list" ≠ Value.type "frame" by decide) (show Value.type "list" ≠ Value.none by decide)
    have hlen : acc.length = i := by
      rw [← List.length_map (f := (·.1)), hacc, List.length_map, List.length_take, Nat.min_eq_left hi]
    have hl2 : (strValues acc).length = acc.length := by unfold strValues; simp
    show wpAny _ A.in1 (updateSeq S (·.push (.str (f ts[i]) t)) >>= _) _ _ _
    refine wpAny_bind ?_
    refine wpAny_updateSeq hS' rfl ?_ (by rw [List.size_toArray, hl2, hlen]; exact Nat.le_trans hi (Nat.le_trans hz sizeM)) (by rw [Array.size_push, List.size_toArray, hl2, hlen]; exact Nat.succ_le_succ (Nat.le_trans hi (Nat.le_trans hz sizeM)))
    have hS2 := Heap.get?_update_self (Obj.mapSeq (·.push (.str (f ts[i]) t))) hS' rfl
    have sb : Heap.SameBut S s'.heap (s'.heap.update S (Obj.mapSeq (·.push (.str (f ts[i]) t)))) := Heap.SameBut.update ..
    have kS : Keep W.N [S] s'.heap (s'.heap.update S (Obj.mapSeq (·.push (.str (f ts[i]) t)))) := .sameBut sb hS2 (.head _)
    have P'' : GPre W A.in1.in1 C I l vs (i + 1) { s' with heap := s'.heap.update S (Obj.mapSeq (·.push (.str (f ts[i]) t))) } := P'.aside lk lo hSN hSC hSI hSl ⟨_, hS', show Value.type "list" ≠ Value.type "frame" by decide⟩ kS
    have G'' : GAt W A.in1 C I l vs ts f a g (i + 1) { s' with heap := s'.heap.update S (Obj.mapSeq (·.push (.str (f ts[i]) t))) } := ⟨by
      obtain ⟨o, nm, qn, e, hc, r⟩ := G'.gen
      exact ⟨o, nm, qn, (sb.2 a hSa).trans e, hc, r⟩, G'.st⟩
    have ea : ((strValues acc).toArray.push (.str (f ts[i]) t)) = (strValues (acc ++ [(f ts[i], t)])).toArray := by unfold strValues; simp
    have hS3 : (s'.heap.update S (Obj.mapSeq (·.push (.str (f ts[i]) t)))).get? S = some { cls := .type "list", data := .seq (strValues (acc ++ [(f ts[i], t)])).toArray (c + 1) } := by
      rw [hS2, mapSeq_push, ea]
    refine wpAny_pure ⟨plainId_quiet F.plain_extend_loop _, ih (i + 1) _ _ _ (nsub hk) hlt G'' P'' hS3 ?_ fun s'' acc' c' B'' F'' hg off there gens os hS'' hacc' => ?_⟩
    · rw [List.map_append, hacc, List.take_succ_eq_append_getElem hlt, List.map_append]; rfl
    · refine hq s'' acc' c' B'' F'' hg (fun b o h1 h2 h3 e => ?_) (fun b o hb e => ?_) (st.gens.trans gens) (os.trans st.os) hS'' hacc'
      · refine (st.off b o h1 h2 e).trans fun o' e' => off b o' h1 h2 h3 ?_
        exact (sb.2 b h3).trans e'
      · obtain ⟨o', e'⟩ := st.there b o hb e
        obtain ⟨o2, e2⟩ := kS.there b o' e'
        exact there b o2 hb e2
end
end G2
section G3
section
variable {W : Wd} {A : Around} {C I l : Addr} {vs : List Value} {ts : List Str} {f : Str → Str} {cenv : Env} {x : Str} {D a g : Nat}
theorem collect_gen {s : Shared} {Q : List Value → Shared → Prop} {E : Value → Shared → Prop} (hh : A.handled = none) (hd : A.depth < recursionLimit) (lk : lowK W.K W.N = true) (lo : builtinsNs < W.N ∧ cStatics < W.N) (ha : a ≠ C) (hI : a ≠ I) (hz : ts.length ≤ 1000000) (hN : W.N ≤ C) (G : GAt W A.in1 C I l vs ts f a g 0 s) (P : GPre W A.in1.in1 C I l vs 0 s)
    (hq : ∀ s' acc, Base W.K W.N s'.heap → Frs W.N A s'.heap → s'.gens[g]? = some .finished → CStep W C I g s s' → acc.map (·.1) = ts.map f → Q (strValues acc) s') : wpAny (model W.prog W.w) A (collect (.ref a)) Q E s := by
  obtain ⟨oa, nm, qn, ea, hca, _⟩ := id G.gen
  obtain ⟨oI, eI, _⟩ := id P.it
  obtain ⟨ol, el, _⟩ := id P.list
  obtain ⟨m, fr⟩ := P.fr
  obtain ⟨oC, eC, _⟩ := fr.cls
  have ne : ∀ {b : Addr} {o : Obj}, s.heap.get? b = some o → b ≠ s.heap.objs.size := fun e => Nat.ne_of_lt (Heap.lt_size e)
  have hT : s.TypeIs (.ref a) "generator" := G.gen.typeIs
  unfold collect
  refine wpAny_bind (wpAny_runValue (codeAny_builtin F.entry_proto_collect ?_))
  rw [Around.under_plainId F.plain_proto_collect _]
  show wpAny _ A.in1 (newList [] >>= fun l => again (.builtin "list.__iadd__" ⟨[l, .ref a], []⟩)) _ _ s
  refine wpAny_bind (wpAny_newObj_type ?_)
  refine wpAny_pure ⟨plainId_quiet F.plain_list_iadd _, codeAny_builtin F.entry_list_iadd ?_⟩
  rw [Around.under_plainId F.plain_list_iadd _]
  generalize eS : s.heap.objs.size = S at *
  have hS : (s.heap.push { cls := .type "list", data := .seq ([] : List Value).toArray }).get? S = some { cls := .type "list", data := .seq ([] : List Value).toArray } := eS ▸ Heap.get?_push_size _ rfl
  have up : ∀ b o, s.heap.get? b = some o → (s.heap.push { cls := .type "list", data := .seq ([] : List Value).toArray }).get? b = some o := fun b o e => Heap.get?_push_of_some _ e
  have hSN : W.N ≤ S := by rw [← eS]; exact Nat.le_trans hN (Nat.le_of_lt (Heap.lt_size eC))
  generalize s.heap.push { cls := .type "list", data := .seq ([] : List Value).toArray } = h1 at *
  have k1 : Keep W.N [] s.heap h1 := .of_all up
  have hT1 : Shared.TypeIs { s with heap := h1 } (.ref a) "generator" := ⟨oa, up _ _ ea, hca⟩
  show wpAny _ A.in1 (Builtin.List.listExtendWith (.ref S) (.ref a) (.ref S)) _ _ _
  unfold Builtin.List.listExtendWith
  refine wpAny_bind (wpAny_typeOf hT1 ?_)
  have b1 : Builtin.List.listSameRef (.ref S) (.ref a) = false := by simp [Builtin.List.listSameRef, (ne ea).symm]
  have b2 : (Value.type "generator" == Value.type "list") = false := by decide
  have b3 : (Value.type "generator" == Value.type "tuple") = false := by decide
  simp only [b1, b2, b3, Bool.or_false, Bool.false_eq_true, if_false]
  have G1 : GAt W A.in1 C I l vs ts f a g 0 { s with heap := h1 } := ⟨G.gen.keeps up, G.st⟩
  refine wpAny_bind (wpAny_pyIter_gen G1.gen ?_)
  refine wpAny_bind (wpAny_holding ?_)
  unfold Builtin.List.listLengthHint
  refine wpAny_bind (wpAny_specialOf hT1 F.gen_no_len ?_)
  show wpAny _ A.in1 (specialOf (Value.ref a) (Str.ofString "__length_hint__") >>= _) _ _ _
  refine wpAny_bind (wpAny_specialOf hT1 F.gen_no_hint ?_)
  refine wpAny_pure ?_
  show wpAny _ A.in1 (rule "list.extend.makes-room" >>= fun _ => Builtin.List.listTouch (.ref S) >>= fun _ =>
    again (.builtin "list.extend.loop" ⟨[.ref S, .ref a, .ref S], []⟩)) _ _ _
  refine wpAny_bind (wpAny_rule ?_)
  refine wpAny_bind ?_
  show wpAny _ A.in1 (updateSeq S (·.push .none) >>= fun _ => updateSeq S (·.pop)) _ _ _
  refine wpAny_bind (wpAny_updateSeq hS rfl ?_)
  have hS2 := Heap.get?_update_self (Obj.mapSeq (·.push Value.none)) hS rfl
  refine wpAny_updateSeq hS2 rfl ?_
  have hS3 := Heap.get?_update_self (Obj.mapSeq (·.pop)) hS2 rfl
  have sb : Heap.SameBut S h1 ((h1.update S (Obj.mapSeq (·.push Value.none))).update S (Obj.mapSeq (·.pop))) := (Heap.SameBut.update ..).trans (Heap.SameBut.update ..)
  generalize (h1.update S (Obj.mapSeq (·.push Value.none))).update S (Obj.mapSeq (·.pop)) = h3 at *
  have kS : Keep W.N [S] h1 h3 := .sameBut sb hS3 (.head _)
  have k3 : Keep W.N [S] s.heap h3 := k1.all.trans kS
  have P0 : GPre W A.in1.in1 C I l vs 0 { s with heap := h1 } := ⟨P.base.keep (T := []) lk (fun _ z => nomatch z) lo k1, P.frs.keep k1, keep_iter k1 (fun z => nomatch z) P.it, keep_list k1 (fun z => nomatch z) P.list, m, k1.frame (fun z => nomatch z) fr⟩
  have P3 : GPre W A.in1.in1 C I l vs 0 { s with heap := h3 } := P0.aside (s' := { s with heap := h3 }) lk lo hSN (ne eC) (ne eI) (ne el) ⟨_, hS, show Value.type "list" ≠ Value.type "frame" by decide⟩ kS
  have G3 : GAt W A.in1 C I l vs ts f a g 0 { s with heap := h3 } := ⟨by
    obtain ⟨o, nm, qn, e, hc, r⟩ := G1.gen
    exact ⟨o, nm, qn, (sb.2 a (ne ea)).trans e, hc, r⟩, G.st⟩
  refine wpAny_pure ⟨plainId_quiet F.plain_extend_loop _, gather (S := S) hh hd lk lo ha hI hz hSN (ne eC) (ne eI) (ne el) (ne ea) _ ts.length 0 { s with heap := h3 } [] _ rfl (Nat.zero_le _) G3 P3 hS3 rfl fun s' acc' c' B' F' hg off there gens os hS' hacc => ?_⟩
  show wpAny _ A (load S >>= _) _ _ s'
  refine wpAny_bind (wpAny_load hS' ?_)
  refine wpAny_pure (hq s' acc' B' F' hg ⟨fun b o h1' h2' e => ?_, fun b o hb e => ?_, gens, os⟩ hacc)
  · have hb : b ≠ S := ne e
    have e3 : h3.get? b = some o := (sb.2 b hb).trans (up b o e)
    exact off b o h1' h2' hb e3
  · have hb' : b ≠ S := ne e
    exact there b o hb ((sb.2 b hb').trans (up b o e))
theorem join_call {sep : Str} {t : Tok} {s : Shared} {Q E : Value → Shared → Prop} (hh : A.handled = none) (hd : A.depth < recursionLimit) (lk : lowK W.K W.N = true) (lo : builtinsNs < W.N ∧ cStatics < W.N) (ha : a ≠ C) (hI : a ≠ I) (hz : ts.length ≤ 1000000) (hN : W.N ≤ C) (G : GAt W A.in1.in1 C I l vs ts f a g 0 s) (P : GPre W A.in1.in1.in1 C I l vs 0 s) (hj : JoinOk sep (ts.map f) = true)
    (hq : ∀ s' t' k, Base W.K W.N s'.heap → Frs W.N A s'.heap → s'.gens[g]? = some .finished → CStep W C I g s s' → Q (.str (Txt.join sep (ts.map f)) t') { s' with toks := k }) : wpAny (model W.prog W.w) A (call (.builtin "str.join") [.str sep t, .ref a]) Q E s := by
  refine wpAny_call (codeAny_call_builtin F.slot_str_join.plain F.entry_str_join (F.slot_str_join.check _ _ _ _ _ _ _ _ (typeIs_str _ _ _) (F.args_str_join_2 _ _) ?_))
  rw [join_tree_other]
  refine wpAny_bind (wpAny_typeOf G.gen.typeIs ?_)
  show wpAny _ A.in1 ((pyIter (.ref a)).tryCatch _ >>= fun it => collect it >>= fun items => joinTail sep items) _ _ s
  refine wpAny_bind (wpAny_tryCatch (wpAny_pyIter_gen G.gen ?_))
  refine wpAny_bind (collect_gen (A := A.in1) hh hd lk lo ha hI hz hN G P fun s' acc B' F' hg st hacc => ?_)
  have hok := hj
  rw [← hacc] at hok
  unfold JoinOk at hok
  rw [Bool.not_eq_true'] at hok
  have gg : Gives (joinTail sep (strValues acc)) (joinMade sep acc) := by
    have g0 := gives_joinTail sep acc hok
    cases acc with
    | nil => exact g0
    | cons p r => cases r with
      | nil => exact g0
      | cons q r' => exact g0
  refine gg W.prog W.w A (wants Q E) s' (post_join acc ⟨joinFit_length hok, fun t' k => ?_⟩)
  rw [hacc]
  exact hq s' t' k B' F' hg st
end
end G3
section KBase
noncomputable def dE (P : Params) (k : Str) (t : Tok) (v : Value) : DictEntry := ⟨PyData.keyHash P k, .str k t, v⟩
set_option backward.match.sparseCases false in
noncomputable def placeD (top : List Stmt) (i : Nat) (j : Option Nat) : Option Stmt := match top[i]?, j with
  | some (.ClassDef _ _ _ b _ _ _ _ _ _ _), some j => b[j]?
  | r, _ => r
set_option backward.match.sparseCases false in
noncomputable def fnD (top : List Stmt) (i : Nat) (j : Option Nat) (q : Str) (df pm cd : Value) : FuncData := match placeD top i j with
  | some (.FunctionDef n a b _ _ _ sc _ _ _) => { name := n, qualname := q, params := a, body := .stmts b, scope := sc, globals := 3, closure := [], defaults := df, kwdefaults := .none, pyModule := pm, code := cd }
  | _ => default
end KBase
section K01
noncomputable def K01Top : List Stmt := behindTheImports PySem.Challenge.pw_mq0401_01
noncomputable def fn01 (i : Nat) (j : Option Nat) (q : Str) (df pm cd : Value) : FuncData := fnD K01Top i j q df pm cd
noncomputable def K01 (P : Params) : Frag :=
  [
  (3, ⟨(.type "dict"), none, (.dict #[dE P "__name__" 165 (.str "law_mq0401_01" 1270), dE P "__doc__" 166 .none, dE P "__package__" 167 .none, dE P "__loader__" 168 (.builtin "__main__.__loader__#opaque"), dE P "__spec__" 169 .none, dE P "__annotations__" 170 (.ref 6), dE P "__builtins__" 171 (.ref 4), dE P "__file__" 173 (.str "/claim/cut.py" 172), dE P "__cached__" 174 .none, dE P "_sre" 275 (.ref 12), dE P "deque" 317 (.type "collections.deque"), dE P "_wall" 330 (.ref 44), dE P "_twin_re_1" 370 (.ref 49), dE P "_whence" 380 (.ref 56), dE P "_index" 388 (.ref 63), dE P "UnsupportedOperation" 410 (.ref 73), dE P "IOBase" 442 (.ref 93), dE P "BufferedIOBase" 460 (.ref 108), dE P "TextIOBase" 478 (.ref 120), dE P "BytesIO" 740 (.ref 350), dE P "StringIO" 1027 (.ref 597), dE P "_kind" 1038 (.ref 606), dE P "_fspath" 1047 (.ref 613), dE P "_check_arg_types" 1057 (.ref 620), dE P "isabs" 1064 (.ref 627), dE P "join" 1075 (.ref 751), dE P "join_path" 1076 (.ref 634), dE P "dirname" 1086 (.ref 641), dE P "shlex" 1227 (.ref 732), dE P "split" 1237 (.ref 744), dE P "join_shlex" 1245 (.ref 751), dE P "_find_unsafe" 1247 (.ref 752), dE P "quote" 1254 (.ref 759), dE P "_initial_missing" 1257 (.ref 760), dE P "reduce" 1269 (.ref 768), dE P "_law_drawn" 1286 (.ref 775), dE P "_law_step" 1295 (.ref 782), dE P "_law_product" 1304 (.ref 789), dE P "_law_peeled" 1310 (.ref 794), dE P "law" 1316 (.ref 799)] 40), #[]⟩),
  (2, ⟨.none, none, (.dict #[dE P "\x69mport.loaded._sre" 183 (.bool true), dE P "class._frozen_importlib.BuiltinImporter" 185 (.ref 14), dE P "watched.\x69mport" 206 (.ref 18), dE P "class._frozen_importlib.ModuleSpec" 216 (.ref 22), dE P "sys.modules.booked-epoch" 245 (.int 4 0), dE P "\x69mport.later-laid._sre" 270 (.bool true), dE P "watched.library" 272 (.ref 27), dE P "watched.library-objects" 0 (.str "\x0c\x1e" 0), dE P "watched.library-deep._sre" 273 (.str "\x04\x00\x00\x0b\x04\x00\x00\x0b\x04\x00\x00\x03\x04\x00\x00\x0b\x08\x04dict\x02" 0), dE P "\x69mport.loaded._collections" 280 (.bool true), dE P "sys.modules.landed._collections" 294 (.bool true), dE P "\x69mport.later-laid._collections" 309 (.bool true), dE P "watched.library-deep._collections" 311 (.str "\x04\x00\x00\x1d\x04\x00\x00\x1d\x04\x00\x00\x03\x04\x00\x00\x1d\x08\x04dict\x02" 0), dE P "type.__subclasses__.OSError.0" 407 (.int 73 0), dE P "type.__subclasses__.OSError.n" 408 (.int 1 0)] 15), #[]⟩),
  (4, ⟨(.type "module"), (some 0), .plain, #[]⟩),
  (760, ⟨(.type "object"), none, .plain, #[]⟩),
  (732, ⟨(.type "type"), none, (.cls { name := "shlex", bases := [(.type "object")], mro := [(.ref 732), (.type "object")], ns := 731, qualname := "shlex", hasDict := true, slotNames := [], subclasses := [], abstract := false, hasDel := false }), #[none, none, some (.str "shlex" 1089), some (.str "shlex" 1097), some (.builtin "object.__new__"), some (.bool true)]⟩),
  (731, ⟨(.type "dict"), none, (.dict #[dE P "__module__" 1096 (.str "cpy313.shlex" 1087), dE P "__firstlineno__" 1100 (.int 473 1099), dE P "__init__" 1112 (.ref 656), dE P "punctuation_chars" 1120 (.ref 664), dE P "push_token" 1128 (.ref 671), dE P "push_source" 1137 (.ref 679), dE P "pop_source" 1144 (.ref 686), dE P "get_token" 1156 (.ref 693), dE P "read_token" 1167 (.ref 700), dE P "sourcehook" 1175 (.ref 707), dE P "error_leader" 1184 (.ref 715), dE P "__iter__" 1191 (.ref 722), dE P "__next__" 1199 (.ref 729), dE P "__static_attributes__" 1220 (.ref 730), dE P "__dict__" 1222 (.ref 733), dE P "__weakref__" 1224 (.ref 734), dE P "__doc__" 1225 .none] 4), #[]⟩),
  (597, ⟨(.type "type"), none, (.cls { name := "StringIO", bases := [(.ref 120)], mro := [(.ref 597), (.ref 120), (.ref 93), (.type "object")], ns := 596, qualname := "StringIO", hasDict := true, slotNames := [], subclasses := [], abstract := false, hasDel := false }), #[some (.ref 353), none, some (.str "StringIO" 741), some (.str "StringIO" 749), some .none, some (.bool true)]⟩),
  (596, ⟨(.type "dict"), none, (.dict #[dE P "__module__" 748 (.str "_io" 753), dE P "__firstlineno__" 752 (.int 203 751), dE P "__init__" 765 (.ref 367), dE P "_StringIO__translated" 774 (.ref 374), dE P "_StringIO__check" 781 (.ref 381), dE P "_StringIO__check_dot" 788 (.ref 388), dE P "_StringIO__line" 803 (.ref 395), dE P "closed" 811 (.ref 403), dE P "line_buffering" 819 (.ref 411), dE P "newlines" 827 (.ref 419), dE P "encoding" 835 (.ref 427), dE P "errors" 843 (.ref 435), dE P "close" 850 (.ref 442), dE P "__enter__" 857 (.ref 449), dE P "__exit__" 865 (.ref 456), dE P "readable" 872 (.ref 463), dE P "writable" 879 (.ref 470), dE P "seekable" 886 (.ref 477), dE P "isatty" 893 (.ref 484), dE P "flush" 900 (.ref 491), dE P "fileno" 907 (.ref 498), dE P "detach" 914 (.ref 505), dE P "getvalue" 921 (.ref 512), dE P "tell" 928 (.ref 519), dE P "seek" 938 (.ref 527), dE P "truncate" 946 (.ref 535), dE P "read" 958 (.ref 543), dE P "readline" 968 (.ref 551), dE P "readlines" 978 (.ref 559), dE P "__iter__" 985 (.ref 566), dE P "__next__" 993 (.ref 573), dE P "write" 1005 (.ref 580), dE P "writelines" 1013 (.ref 587), dE P "__repr__" 1020 (.ref 594), dE P "__static_attributes__" 1024 (.ref 595), dE P "__doc__" 1025 .none] 2), #[]⟩),
  (120, ⟨(.type "type"), none, (.cls { name := "TextIOBase", bases := [(.ref 93)], mro := [(.ref 120), (.ref 93), (.type "object")], ns := 119, qualname := "TextIOBase", hasDict := true, slotNames := [], subclasses := [(.ref 597)], abstract := false, hasDel := false }), #[some (.ref 111), none, some (.str "TextIOBase" 461), some (.str "TextIOBase" 469), some .none, some (.bool true)]⟩),
  (119, ⟨(.type "dict"), none, (.dict #[dE P "__module__" 468 (.str "io" 473), dE P "__firstlineno__" 472 (.int 31 471), dE P "__static_attributes__" 475 (.ref 118), dE P "__doc__" 476 .none] 2), #[]⟩),
  (93, ⟨(.type "type"), none, (.cls { name := "IOBase", bases := [(.type "object")], mro := [(.ref 93), (.type "object")], ns := 92, qualname := "IOBase", hasDict := true, slotNames := [], subclasses := [(.ref 108), (.ref 120)], abstract := false, hasDel := false }), #[none, none, some (.str "IOBase" 411), some (.str "IOBase" 419), some .none, some (.bool true)]⟩),
  (92, ⟨(.type "dict"), none, (.dict #[dE P "__module__" 418 (.str "io" 423), dE P "__firstlineno__" 422 (.int 22 421), dE P "__new__" 433 (.ref 94), dE P "__static_attributes__" 434 (.ref 91), dE P "__dict__" 437 (.ref 95), dE P "__weakref__" 439 (.ref 96), dE P "__doc__" 440 .none] 4), #[]⟩),
  (94, ⟨(.type "staticmethod"), none, (.fields #[(.ref 90)]), #[]⟩),
  (664, ⟨(.type "property"), none, (.fields #[(.ref 663), .none, .none, .none, (.str "punctuation_chars" 1120), (.bool false)]), #[]⟩),
  (350, ⟨(.type "type"), none, (.cls { name := "BytesIO", bases := [(.ref 108)], mro := [(.ref 350), (.ref 108), (.ref 93), (.type "object")], ns := 349, qualname := "BytesIO", hasDict := true, slotNames := [], subclasses := [], abstract := false, hasDel := false }), #[some (.ref 123), none, some (.str "BytesIO" 479), some (.str "BytesIO" 487), some .none, some (.bool true)]⟩),
  (49, ⟨(.type "re.Pattern"), none, (.fields #[(.str "[^\\w@%+=:,./-]" 332), (.int 256 369), (.int 0 0), .none, .none, (.ref 48), (.int 0 0)]), #[]⟩),
  (48, ⟨(.type "tuple"), none, (.seq #[(.int 14 0), (.int 17 0), (.int 4 0), (.int 1 0), (.int 1 0), (.int 21 0), (.int 9 0), (.int 0 0), (.int 604043296 0), (.int 1 0), (.int 0 0), (.int 0 0), (.int 0 0), (.int 0 0), (.int 0 0), (.int 8 0), (.int 4 0), (.int 0 0), (.int 13 0), (.int 14 0), (.int 21 0), (.int 9 0), (.int 0 0), (.int 604043296 0), (.int 1 0), (.int 0 0), (.int 0 0), (.int 0 0), (.int 0 0), (.int 0 0), (.int 8 0), (.int 4 0), (.int 0 0), (.int 1 0)] 0), #[]⟩),
  (752, ⟨(.type "builtin_function_or_method"), none, (.fields #[(.builtin "re.Pattern.search"), (.ref 49)]), #[]⟩),
  (768, ⟨(.type "function"), none, (.func (fn01 28 none "reduce" (.ref 761) (.str "cpy313.functools" 1255) (.ref 767))), #[]⟩),
  (767, ⟨(.type "code"), none, (.fields #[(.str "reduce" 1258), (.str "reduce" 1259), (.str "/claim/cut.py" 1260), (.int 747 0), (.int 3 0), (.int 0 0), (.int 0 0), (.int 3 0), (.ref 762), (.bool true), (.int 318 0), (.ref 763), .none, (.ref 764), (.ref 765), (.ref 766), (.int 1267 0), (.int 747 0), (.str "/claim/cut.py" 1268)]), #[]⟩),
  (761, ⟨(.type "tuple"), none, (.seq #[(.ref 760)] 0), #[]⟩),
  (63, ⟨(.type "function"), none, (.func (fn01 4 none "_index" .none (.str "io" 371) (.ref 62))), #[]⟩),
  (62, ⟨(.type "code"), none, (.fields #[(.str "_index" 381), (.str "_index" 382), (.str "/claim/cut.py" 383), (.int 13 0), (.int 2 0), (.int 0 0), (.int 0 0), (.int 3 0), (.ref 57), (.bool true), (.int 318 0), (.ref 58), .none, (.ref 59), (.ref 60), (.ref 61), (.int 386 0), (.int 13 0), (.str "/claim/cut.py" 387)]), #[]⟩),
  (90, ⟨(.type "function"), none, (.func (fn01 6 (some 1) "IOBase.__new__" .none (.str "io" 371) (.ref 89))), #[]⟩),
  (89, ⟨(.type "code"), none, (.fields #[(.str "__new__" 425), (.str "IOBase.__new__" 426), (.str "/claim/cut.py" 427), (.int 25 0), (.int 1 0), (.int 1 0), (.int 0 0), (.int 15 0), (.ref 84), (.bool true), (.int 318 0), (.ref 85), .none, (.ref 86), (.ref 87), (.ref 88), (.int 431 0), (.int 25 0), (.str "/claim/cut.py" 432)]), #[]⟩),
  (367, ⟨(.type "function"), none, (.func (fn01 10 (some 1) "StringIO.__init__" (.ref 360) (.str "io" 371) (.ref 366))), #[]⟩),
  (366, ⟨(.type "code"), none, (.fields #[(.str "__init__" 757), (.str "StringIO.__init__" 758), (.str "/claim/cut.py" 759), (.int 206 0), (.int 3 0), (.int 0 0), (.int 0 0), (.int 3 0), (.ref 361), (.bool true), (.int 318 0), (.ref 362), .none, (.ref 363), (.ref 364), (.ref 365), (.int 763 0), (.int 206 0), (.str "/claim/cut.py" 764)]), #[]⟩),
  (360, ⟨(.type "tuple"), none, (.seq #[(.str "" 755), (.str "\n" 756)] 0), #[]⟩),
  (374, ⟨(.type "function"), none, (.func (fn01 10 (some 2) "StringIO.__translated" .none (.str "io" 371) (.ref 373))), #[]⟩),
  (373, ⟨(.type "code"), none, (.fields #[(.str "__translated" 766), (.str "StringIO.__translated" 767), (.str "/claim/cut.py" 768), (.int 219 0), (.int 2 0), (.int 0 0), (.int 0 0), (.int 3 0), (.ref 368), (.bool true), (.int 318 0), (.ref 369), .none, (.ref 370), (.ref 371), (.ref 372), (.int 772 0), (.int 219 0), (.str "/claim/cut.py" 773)]), #[]⟩),
  (381, ⟨(.type "function"), none, (.func (fn01 10 (some 3) "StringIO.__check" .none (.str "io" 371) (.ref 380))), #[]⟩),
  (380, ⟨(.type "code"), none, (.fields #[(.str "__check" 775), (.str "StringIO.__check" 776), (.str "/claim/cut.py" 777), (.int 227 0), (.int 1 0), (.int 0 0), (.int 0 0), (.int 3 0), (.ref 375), (.bool true), (.int 318 0), (.ref 376), .none, (.ref 377), (.ref 378), (.ref 379), (.int 779 0), (.int 227 0), (.str "/claim/cut.py" 780)]), #[]⟩),
  (543, ⟨(.type "function"), none, (.func (fn01 10 (some 25) "StringIO.read" (.ref 536) (.str "io" 371) (.ref 542))), #[]⟩),
  (542, ⟨(.type "code"), none, (.fields #[(.str "read" 949), (.str "StringIO.read" 950), (.str "/claim/cut.py" 951), (.int 349 0), (.int 2 0), (.int 2 0), (.int 0 0), (.int 3 0), (.ref 537), (.bool true), (.int 318 0), (.ref 538), .none, (.ref 539), (.ref 540), (.ref 541), (.int 956 0), (.int 349 0), (.str "/claim/cut.py" 957)]), #[]⟩),
  (536, ⟨(.type "tuple"), none, (.seq #[(.int (-1) 948)] 0), #[]⟩),
  (656, ⟨(.type "function"), none, (.func (fn01 20 (some 0) "shlex.__init__" (.ref 649) (.str "cpy313.shlex" 1087) (.ref 655))), #[]⟩),
  (655, ⟨(.type "code"), none, (.fields #[(.str "__init__" 1101), (.str "shlex.__init__" 1102), (.str "/claim/cut.py" 1103), (.int 475 0), (.int 5 0), (.int 0 0), (.int 0 0), (.int 3 0), (.ref 650), (.bool true), (.int 318 0), (.ref 651), .none, (.ref 652), (.ref 653), (.ref 654), (.int 1110 0), (.int 475 0), (.str "/claim/cut.py" 1111)]), #[]⟩),
  (649, ⟨(.type "tuple"), none, (.seq #[.none, .none, (.bool false), (.bool false)] 0), #[]⟩),
  (671, ⟨(.type "function"), none, (.func (fn01 20 (some 2) "shlex.push_token" .none (.str "cpy313.shlex" 1087) (.ref 670))), #[]⟩),
  (670, ⟨(.type "code"), none, (.fields #[(.str "push_token" 1121), (.str "shlex.push_token" 1122), (.str "/claim/cut.py" 1123), (.int 520 0), (.int 2 0), (.int 0 0), (.int 0 0), (.int 3 0), (.ref 665), (.bool true), (.int 318 0), (.ref 666), .none, (.ref 667), (.ref 668), (.ref 669), (.int 1126 0), (.int 520 0), (.str "/claim/cut.py" 1127)]), #[]⟩),
  (663, ⟨(.type "function"), none, (.func (fn01 20 (some 1) "shlex.punctuation_chars" .none (.str "cpy313.shlex" 1087) (.ref 662))), #[]⟩),
  (662, ⟨(.type "code"), none, (.fields #[(.str "punctuation_chars" 1113), (.str "shlex.punctuation_chars" 1114), (.str "/claim/cut.py" 1115), (.int 516 0), (.int 1 0), (.int 0 0), (.int 0 0), (.int 3 0), (.ref 657), (.bool true), (.int 318 0), (.ref 658), .none, (.ref 659), (.ref 660), (.ref 661), (.int 1117 0), (.int 516 0), (.str "/claim/cut.py" 1118)]), #[]⟩),
  (693, ⟨(.type "function"), none, (.func (fn01 20 (some 5) "shlex.get_token" .none (.str "cpy313.shlex" 1087) (.ref 692))), #[]⟩),
  (692, ⟨(.type "code"), none, (.fields #[(.str "get_token" 1145), (.str "shlex.get_token" 1146), (.str "/claim/cut.py" 1147), (.int 545 0), (.int 1 0), (.int 0 0), (.int 0 0), (.int 3 0), (.ref 687), (.bool true), (.int 318 0), (.ref 688), .none, (.ref 689), (.ref 690), (.ref 691), (.int 1154 0), (.int 545 0), (.str "/claim/cut.py" 1155)]), #[]⟩),
  (700, ⟨(.type "function"), none, (.func (fn01 20 (some 6) "shlex.read_token" .none (.str "cpy313.shlex" 1087) (.ref 699))), #[]⟩),
  (699, ⟨(.type "code"), none, (.fields #[(.str "read_token" 1157), (.str "shlex.read_token" 1158), (.str "/claim/cut.py" 1159), (.int 572 0), (.int 1 0), (.int 0 0), (.int 0 0), (.int 3 0), (.ref 694), (.bool true), (.int 318 0), (.ref 695), .none, (.ref 696), (.ref 697), (.ref 698), (.int 1165 0), (.int 572 0), (.str "/claim/cut.py" 1166)]), #[]⟩),
  (722, ⟨(.type "function"), none, (.func (fn01 20 (some 9) "shlex.__iter__" .none (.str "cpy313.shlex" 1087) (.ref 721))), #[]⟩),
  (721, ⟨(.type "code"), none, (.fields #[(.str "__iter__" 1185), (.str "shlex.__iter__" 1186), (.str "/claim/cut.py" 1187), (.int 719 0), (.int 1 0), (.int 0 0), (.int 0 0), (.int 3 0), (.ref 716), (.bool true), (.int 318 0), (.ref 717), .none, (.ref 718), (.ref 719), (.ref 720), (.int 1189 0), (.int 719 0), (.str "/claim/cut.py" 1190)]), #[]⟩),
  (729, ⟨(.type "function"), none, (.func (fn01 20 (some 10) "shlex.__next__" .none (.str "cpy313.shlex" 1087) (.ref 728))), #[]⟩),
  (728, ⟨(.type "code"), none, (.fields #[(.str "__next__" 1192), (.str "shlex.__next__" 1193), (.str "/claim/cut.py" 1194), (.int 722 0), (.int 1 0), (.int 0 0), (.int 0 0), (.int 3 0), (.ref 723), (.bool true), (.int 318 0), (.ref 724), .none, (.ref 725), (.ref 726), (.ref 727), (.int 1197 0), (.int 722 0), (.str "/claim/cut.py" 1198)]), #[]⟩),
  (744, ⟨(.type "function"), none, (.func (fn01 21 none "split" (.ref 737) (.str "cpy313.shlex" 1087) (.ref 743))), #[]⟩),
  (743, ⟨(.type "code"), none, (.fields #[(.str "split" 1228), (.str "split" 1229), (.str "/claim/cut.py" 1230), (.int 727 0), (.int 3 0), (.int 0 0), (.int 0 0), (.int 3 0), (.ref 738), (.bool true), (.int 318 0), (.ref 739), .none, (.ref 740), (.ref 741), (.ref 742), (.int 1235 0), (.int 727 0), (.str "/claim/cut.py" 1236)]), #[]⟩),
  (737, ⟨(.type "tuple"), none, (.seq #[(.bool false), (.bool true)] 0), #[]⟩),
  (751, ⟨(.type "function"), none, (.func (fn01 22 none "join" .none (.str "cpy313.shlex" 1087) (.ref 750))), #[]⟩),
  (750, ⟨(.type "code"), none, (.fields #[(.str "join" 1238), (.str "join" 1239), (.str "/claim/cut.py" 1240), (.int 735 0), (.int 1 0), (.int 0 0), (.int 0 0), (.int 3 0), (.ref 745), (.bool true), (.int 318 0), (.ref 746), .none, (.ref 747), (.ref 748), (.ref 749), (.int 1242 0), (.int 735 0), (.str "/claim/cut.py" 1243)]), #[]⟩),
  (759, ⟨(.type "function"), none, (.func (fn01 25 none "quote" .none (.str "cpy313.shlex" 1087) (.ref 758))), #[]⟩),
  (758, ⟨(.type "code"), none, (.fields #[(.str "quote" 1248), (.str "quote" 1249), (.str "/claim/cut.py" 1250), (.int 739 0), (.int 1 0), (.int 0 0), (.int 0 0), (.int 3 0), (.ref 753), (.bool true), (.int 318 0), (.ref 754), .none, (.ref 755), (.ref 756), (.ref 757), (.int 1252 0), (.int 739 0), (.str "/claim/cut.py" 1253)]), #[]⟩),
  (775, ⟨(.type "function"), none, (.func (fn01 30 none "_law_drawn" .none (.str "law_mq0401_01" 1270) (.ref 774))), #[]⟩),
  (774, ⟨(.type "code"), none, (.fields #[(.str "_law_drawn" 1272), (.str "_law_drawn" 1273), (.str "/claim/cut.py" 1274), (.int 760 0), (.int 1 0), (.int 0 0), (.int 0 0), (.int 3 0), (.ref 769), (.bool true), (.int 318 0), (.ref 770), .none, (.ref 771), (.ref 772), (.ref 773), (.int 1284 0), (.int 760 0), (.str "/claim/cut.py" 1285)]), #[]⟩),
  (782, ⟨(.type "function"), none, (.func (fn01 31 none "_law_step" .none (.str "law_mq0401_01" 1270) (.ref 781))), #[]⟩),
  (781, ⟨(.type "code"), none, (.fields #[(.str "_law_step" 1287), (.str "_law_step" 1288), (.str "/claim/cut.py" 1289), (.int 774 0), (.int 2 0), (.int 0 0), (.int 0 0), (.int 3 0), (.ref 776), (.bool true), (.int 318 0), (.ref 777), .none, (.ref 778), (.ref 779), (.ref 780), (.int 1293 0), (.int 774 0), (.str "/claim/cut.py" 1294)]), #[]⟩),
  (789, ⟨(.type "function"), none, (.func (fn01 32 none "_law_product" .none (.str "law_mq0401_01" 1270) (.ref 788))), #[]⟩),
  (788, ⟨(.type "code"), none, (.fields #[(.str "_law_product" 1296), (.str "_law_product" 1297), (.str "/claim/cut.py" 1298), (.int 782 0), (.int 2 0), (.int 0 0), (.int 0 0), (.int 3 0), (.ref 783), (.bool true), (.int 318 0), (.ref 784), .none, (.ref 785), (.ref 786), (.ref 787), (.int 1302 0), (.int 782 0), (.str "/claim/cut.py" 1303)]), #[]⟩),
  (794, ⟨(.type "function"), none, (.func (fn01 33 none "_law_peeled" .none (.str "law_mq0401_01" 1270) (.ref 793))), #[]⟩),
  (793, ⟨(.type "code"), none, (.fields #[(.str "_law_peeled" 1305), (.str "_law_peeled" 1306), (.str "/claim/cut.py" 1307), (.int 786 0), (.int 3 0), (.int 0 0), (.int 0 0), (.int 3 0), (.ref 790), (.bool true), (.int 318 0), (.ref 791), .none, .none, .none, (.ref 792), (.int 1308 0), (.int 786 0), (.str "/claim/cut.py" 1309)]), #[]⟩),
  (799, ⟨(.type "function"), none, (.func (fn01 34 none "law" .none (.str "law_mq0401_01" 1270) (.ref 798))), #[]⟩),
  (798, ⟨(.type "code"), none, (.fields #[(.str "law" 1311), (.str "law" 1312), (.str "/claim/cut.py" 1313), (.int 807 0), (.int 1 0), (.int 0 0), (.int 0 0), (.int 3 0), (.ref 795), (.bool true), (.int 318 0), (.ref 796), .none, .none, .none, (.ref 797), (.int 1314 0), (.int 807 0), (.str "/claim/cut.py" 1315)]), #[]⟩)]
end K01
section oL2a
structure Wn where
  w : World
  N : Nat
noncomputable abbrev KK (w : Wn) : Frag := K01 w.w.params
noncomputable abbrev WW (w : Wn) : Wd := ⟨PySem.Challenge.rw_mq0401_01.row.prog, w.w, KK w, w.N⟩
noncomputable def sioAttrs : List Str := ["_StringIO__newline", "_StringIO__buf", "_StringIO__pos"]
noncomputable def lexAttrs : List Str := ["instream", "infile", "posix", "eof", "commenters", "wordchars", "whitespace", "whitespace_split", "quotes", "escape", "escapedquotes", "state", "pushback", "lineno", "debug", "token", "filestack", "source", "_punctuation_chars"]
noncomputable def tabs : Tabs where
  nt := [597, 350, 760]
  glob := [("_index", .ref 63), ("len", .builtin "len"), ("type", .type "type"), ("int", .type "int"), ("bool", .type "bool"), ("StopIteration", .type "StopIteration"), ("deque", .type "collections.deque"), ("StringIO", .ref 597), ("BytesIO", .ref 350), ("object", .type "object"), ("shlex", .ref 732), ("isinstance", .builtin "isinstance"), ("str", .type "str"), ("tuple", .type "tuple"), ("list", .type "list"), ("iter", .builtin "iter"), ("reduce", .ref 768), ("_initial_missing", .ref 760), ("split", .ref 744), ("join_shlex", .ref 751), ("quote", .ref 759), ("_find_unsafe", .ref 752), ("_law_drawn", .ref 775), ("_law_step", .ref 782), ("_law_product", .ref 789), ("_law_peeled", .ref 794), ("sum", .builtin "sum"), ("chr", .builtin "chr"), ("abs", .builtin "abs"), ("range", .type "range"), ("next", .builtin "next")]
  attr := [(597, sioAttrs), (732, lexAttrs)]
  seta := [(597, sioAttrs), (732, lexAttrs)]
  alis := [(732, [("punctuation_chars", "_punctuation_chars")])]
  meth := [(597, [("_StringIO__check", 381), ("read", 543), ("_StringIO__translated", 374)]), (732, [("read_token", 700), ("get_token", 693), ("push_token", 671)])]
theorem tabs_okB (w : Wn) : tabs.okB (WW w).K = true := by kernel_rfl
theorem punct_prop (w : Wn) : propOk (WW w).K 732 "punctuation_chars" 664 663 = true := by kernel_rfl
theorem punct_get (w : Wn) : getterOk (WW w).K 663 732 "_punctuation_chars" = true := by kernel_rfl
theorem punct_bind (w : Wn) (v : Value) : runPure (WW w).K 30 (bindArgs (fdOf (WW w).K 663) ⟨[v], []⟩) = some ([("self", v)] : List (Str × Value)) := by kernel_rfl
theorem tabs_ok (w : Wn) : tabs.Ok (WW w) := ⟨tabs_okB w, fun C ns e n al hn => by
  have e := mem_of_lookup e
  rcases List.mem_singleton.mp e with e
  cases e
  have hn := mem_of_lookup hn
  rcases List.mem_singleton.mp hn with hn
  cases hn
  exact ⟨664, 663, punct_prop w, fun k objs att p a b d => getter_ok (punct_get w) (punct_bind w) a b d⟩⟩
noncomputable def idxLoc (n : Int) (p : PV) : List (Str × PV) := [("n", .i n), ("what", p)]
theorem idx_run (w : Wn) (n : Int) (p : PV) (objs : List PO) : xr (mkCfg (W := WW w) (D := 1) (fdOf (WW w).K 63).scope tabs (blt _ _) (.none _ _)) 60 (bodyOf (fdOf (WW w).K 63)) [none, some false] ⟨idxLoc n p, objs⟩ = some (.ret (.i n), objs, [(decide (n > 1099511627776) || (decide (n < -1099511627776) || false)) = false]) := by kernel_rfl
theorem idx_def (w : Wn) : defOk (WW w).K 63 ["n", "what"] = true := by kernel_rfl
theorem idx_bind (w : Wn) (v u : Value) : runPure (WW w).K 30 (bindArgs (fdOf (WW w).K 63) ⟨[v, u], []⟩) = some ([("n", v), ("what", u)] : List (Str × Value)) := by kernel_rfl
theorem spec_index (w : Wn) (n : Int) (p : PV) (objs : List PO) (h1 : -1099511627776 ≤ n) (h2 : n ≤ 1099511627776) : Spec (WW w) 2 (.ref 63) [.i n, p] objs (.i n) objs := by
  refine SpecC.spec ?_
  refine spec_run (by decide) (idx_def w) (tabs_ok w) rfl (fun T ρ s vs B hT ia => ?_) (idx_run w n p objs) ⟨?_, trivial⟩
  · obtain ⟨v, u, rfl, i, j⟩ := isL2 ia
    exact ⟨_, idx_bind w v u, rfl, .cons i (.cons j .nil)⟩
  · simp; omega
end oL2a
section oL2b
noncomputable def tx (l : List Nat) : Str := ⟨⟨l⟩⟩
theorem tx_len (l : List Nat) : (tx l).length = l.length := rfl
theorem slice_one (pre r : List Nat) (c : Nat) : Txt.slice (tx (pre ++ c :: r)) (some pre.length) (some (pre.length + 1)) = ⟨#[c]⟩ := by
  have hi : Builtin.Str.strSliceIndices (some (pre.length : Int)) (some ((pre.length : Int) + 1)) 1 (tx (pre ++ c :: r)).length = [pre.length] := by
    unfold Builtin.Str.strSliceIndices sliceRange
    have e1 : ((tx (pre ++ c :: r)).length : Int) = pre.length + 1 + r.length := by rw [tx_len]; simp; omega
    simp only [e1, show (1 : Int) > 0 by decide, if_true]
    have n1 : ¬ ((pre.length : Int) < 0) := by omega
    have n2 : ¬ ((pre.length : Int) + 1 < 0) := by omega
    simp only [n1, n2, if_false]
    have a : max 0 (min (pre.length : Int) (pre.length + 1 + r.length)) = pre.length := by omega
    have b : max 0 (min ((pre.length : Int) + 1) (pre.length + 1 + r.length)) = pre.length + 1 := by omega
    rw [a, b, if_pos (by omega)]
    have : ((pre.length : Int) + 1 - pre.length + 1 - 1) / 1 = 1 := by omega
    rw [this]
    simp
  unfold Txt.slice
  rw [hi]
  have hx : (tx (pre ++ c :: r)).cps[pre.length]? = some c := by show (pre ++ c :: r).toArray[pre.length]? = _; simp
  split
  · rename_i h
    have h := (Bool.and_eq_true_iff.mp h).2
    have h := beq_iff_eq.mp h
    rw [tx_len] at h
    simp at h
    obtain ⟨h1, h2⟩ : pre.length = 0 ∧ r.length = 0 := by omega
    rw [List.length_eq_zero_iff.mp h1, List.length_eq_zero_iff.mp h2]; rfl
  · simp only [List.filterMap_cons, hx, List.filterMap_nil]
noncomputable def sioO (buf : Str) (pos : Int) : PO := .inst 597 [("_StringIO__newline", .s "\n"), ("_StringIO__buf", .s buf), ("_StringIO__pos", .i pos)]
theorem chk_run (w : Wn) (buf : Str) (pos : Int) (x : PO) (rest : List PO) : xr (mkCfg (W := WW w) (D := 1) (fdOf (WW w).K 381).scope tabs (blt _ _) (.none _ _)) 60 (bodyOf (fdOf (WW w).K 381)) [] ⟨[("self", .o 1)], x :: sioO buf pos :: rest⟩ = some (.next, x :: sioO buf pos :: rest, []) := by kernel_rfl
theorem chk_def (w : Wn) : defOk (WW w).K 381 ["self"] = true := by kernel_rfl
theorem chk_bind (w : Wn) (v : Value) : runPure (WW w).K 30 (bindArgs (fdOf (WW w).K 381) ⟨[v], []⟩) = some ([("self", v)] : List (Str × Value)) := by kernel_rfl
theorem spec_check (w : Wn) (buf : Str) (pos : Int) (x : PO) (rest : List PO) : Spec (WW w) 2 (.ref 381) [.o 1] (x :: sioO buf pos :: rest) (.v .none) (x :: sioO buf pos :: rest) := by
  refine SpecC.spec ?_
  refine spec_run (by decide) (fl := .next) (chk_def w) (tabs_ok w) rfl (fun T ρ s vs B hT ia => ?_) (chk_run w buf pos x rest) trivial
  obtain ⟨v, rfl, i⟩ := isL1 ia
  exact ⟨_, chk_bind w v, rfl, .cons i .nil⟩
theorem keep_index (w : Wn) : keepOk (WW w).K (.ref 63) = true := by kernel_rfl
theorem keep_check (w : Wn) : keepOk (WW w).K (.ref 381) = true := by kernel_rfl
noncomputable def rdPo (w : Wn) (buf : Str) (pos : Int) (x : PO) (rest : List PO) : POrc (WW w) 2 :=
  (POrc.one (keep_index w) (spec_index w 1 (.s "StringIO.read of a size that is no exact int") (x :: sioO buf pos :: rest) (by decide) (by decide))).or ((POrc.one (keep_check w) (spec_check w buf pos x rest)).or (blt _ _))
noncomputable abbrev rdW : PV := .s "StringIO.read of a size that is no exact int"
theorem rd_run0 (w : Wn) (buf : Str) (pos : Int) (x : PO) (rest : List PO) : xr (mkCfg (W := WW w) (fdOf (WW w).K 543).scope tabs (rdPo w buf pos x rest) (.none _ _)) 60 (bodyOf (fdOf (WW w).K 543)) [none, some true] ⟨[("self", .o 1), ("size", .i 1)], x :: sioO buf pos :: rest⟩ =
  some (.ret (.s ""), x :: sioO buf pos :: rest, [Rf ([PV.i 1, rdW], x :: sioO buf pos :: rest), Rf ([PV.o 1], x :: sioO buf pos :: rest), buf.length ≤ sizeLine, decide (pos ≥ (buf.length : Int)) = true]) := by kernel_rfl
theorem rd_run1 (w : Wn) (buf : Str) (pos : Int) (x : PO) (rest : List PO) : xr (mkCfg (W := WW w) (fdOf (WW w).K 543).scope tabs (rdPo w buf pos x rest) (.none _ _)) 60 (bodyOf (fdOf (WW w).K 543)) [none, some false, some true] ⟨[("self", .o 1), ("size", .i 1)], x :: sioO buf pos :: rest⟩ =
  some (.ret (.s (Txt.slice buf (some pos) (some (pos + 1)))), x :: sioO buf (pos + 1) :: rest, [Rf ([PV.i 1, rdW], x :: sioO buf pos :: rest), Rf ([PV.o 1], x :: sioO buf pos :: rest), buf.length ≤ sizeLine, decide (pos ≥ (buf.length : Int)) = false,
    (decide ((1 : Int) ≥ 0) && (decide (pos + 1 < (buf.length : Int)) && true)) = true, buf.length ≤ sizeLine]) := by kernel_rfl
theorem rd_run2 (w : Wn) (buf : Str) (pos : Int) (x : PO) (rest : List PO) : xr (mkCfg (W := WW w) (fdOf (WW w).K 543).scope tabs (rdPo w buf pos x rest) (.none _ _)) 60 (bodyOf (fdOf (WW w).K 543)) [none, some false, some false] ⟨[("self", .o 1), ("size", .i 1)], x :: sioO buf pos :: rest⟩ =
  some (.ret (.s (Txt.slice buf (some pos) (some (buf.length : Int)))), x :: sioO buf (buf.length : Int) :: rest, [Rf ([PV.i 1, rdW], x :: sioO buf pos :: rest), Rf ([PV.o 1], x :: sioO buf pos :: rest), buf.length ≤ sizeLine, decide (pos ≥ (buf.length : Int)) = false,
    (decide ((1 : Int) ≥ 0) && (decide (pos + 1 < (buf.length : Int)) && true)) = false, buf.length ≤ sizeLine]) := by kernel_rfl
theorem rd_def (w : Wn) : defOk (WW w).K 543 ["self", "size"] = true := by kernel_rfl
theorem rd_bind (w : Wn) (v u : Value) : runPure (WW w).K 30 (bindArgs (fdOf (WW w).K 543) ⟨[v, u], []⟩) = some ([("self", v), ("size", u)] : List (Str × Value)) := by kernel_rfl
theorem keep_read (w : Wn) : keepOk (WW w).K (.ref 543) = true := by kernel_rfl
theorem spec_read (w : Wn) (pre r : List Nat) (c : Nat) (x : PO) (rest : List PO) (hz : (tx (pre ++ c :: r)).length ≤ sizeLine) :
    Spec (WW w) 3 (.ref 543) [.o 1, .i 1] (x :: sioO (tx (pre ++ c :: r)) pre.length :: rest) (.s ⟨#[c]⟩) (x :: sioO (tx (pre ++ c :: r)) (pre.length + 1 : Int) :: rest) := by
  have hl : (tx (pre ++ c :: r)).length = pre.length + 1 + r.length := by rw [tx_len]; simp; omega
  cases r with
  | nil =>
    have z := SpecC.spec <| spec_run (by decide) (rd_def w) (tabs_ok w) rfl (fun T ρ s vs B hT ia => by obtain ⟨v, u, rfl, i, j⟩ := isL2 ia; exact ⟨_, rd_bind w v u, rfl, .cons i (.cons j .nil)⟩) (rd_run2 w (tx (pre ++ [c])) pre.length x rest)
      ⟨rfl, rfl, hz, by rw [hl]; simp; omega, by rw [hl]; simp, hz, trivial⟩
    have e : ((tx (pre ++ [c])).length : Int) = (pre.length : Int) + 1 := by rw [hl]; simp
    simp only [e, slice_one] at z
    exact z
  | cons d r =>
    have z := SpecC.spec <| spec_run (by decide) (rd_def w) (tabs_ok w) rfl (fun T ρ s vs B hT ia => by obtain ⟨v, u, rfl, i, j⟩ := isL2 ia; exact ⟨_, rd_bind w v u, rfl, .cons i (.cons j .nil)⟩) (rd_run1 w (tx (pre ++ c :: d :: r)) pre.length x rest)
      ⟨rfl, rfl, hz, by rw [hl]; simp; omega, by rw [hl]; simp; omega, hz, trivial⟩
    rw [slice_one] at z
    exact z
theorem spec_read0 (w : Wn) (pre : List Nat) (x : PO) (rest : List PO) (hz : (tx pre).length ≤ sizeLine) :
    Spec (WW w) 3 (.ref 543) [.o 1, .i 1] (x :: sioO (tx pre) pre.length :: rest) (.s "") (x :: sioO (tx pre) pre.length :: rest) :=
  SpecC.spec <| spec_run (by decide) (rd_def w) (tabs_ok w) rfl (fun T ρ s vs B hT ia => by obtain ⟨v, u, rfl, i, j⟩ := isL2 ia; exact ⟨_, rd_bind w v u, rfl, .cons i (.cons j .nil)⟩) (rd_run0 w (tx pre) pre.length x rest)
    ⟨rfl, rfl, hz, by rw [tx_len]; simp, trivial⟩
theorem spec_rd (w : Wn) (L : List Nat) (n c : Nat) (x : PO) (rest : List PO) (h : L[n]? = some c) (hz : L.length ≤ sizeLine) :
    Spec (WW w) 3 (.ref 543) [.o 1, .i 1] (x :: sioO (tx L) (n : Int) :: rest) (.s ⟨#[c]⟩) (x :: sioO (tx L) ((n + 1 : Nat) : Int) :: rest) := by
  obtain ⟨hn, hc⟩ := List.getElem?_eq_some_iff.mp h
  have e : L = L.take n ++ c :: L.drop (n + 1) := by rw [← hc, ← List.drop_eq_getElem_cons hn, List.take_append_drop]
  have el : (L.take n).length = n := by rw [List.length_take]; omega
  have z := spec_read w (L.take n) (L.drop (n + 1)) c x rest (by rw [← e]; exact hz)
  rw [← e, el] at z
  exact z
theorem spec_rd0 (w : Wn) (L : List Nat) (x : PO) (rest : List PO) (hz : L.length ≤ sizeLine) :
    Spec (WW w) 3 (.ref 543) [.o 1, .i 1] (x :: sioO (tx L) (L.length : Int) :: rest) (.s "") (x :: sioO (tx L) (L.length : Int) :: rest) := spec_read0 w L x rest hz
end oL2b
section oL2c
noncomputable def lexO (cm wc : Str) (st : PV) (ln : Int) (tok : Str) : PO := .inst 732 [("instream", .o 1), ("infile", .v .none), ("posix", .v (.bool true)), ("eof", .v .none), ("commenters", .s cm), ("wordchars", .s wc), ("whitespace", .s " \t\r\n"), ("whitespace_split", .v (.bool true)), ("quotes", .s "'\""), ("escape", .s "\\"), ("escapedquotes", .s "\""),
  ("state", st), ("pushback", .o 2), ("lineno", .i ln), ("debug", .i 0), ("token", .s tok), ("filestack", .o 3), ("source", .v .none), ("_punctuation_chars", .s "")]
noncomputable def rtLoc (q : Bool) : List (Str × PV) := [("self", .o 0), ("quoted", .v (.bool q)), ("escapedstate", .s " ")]
set_option backward.match.sparseCases false in
noncomputable def loopOf : List Stmt → List Stmt
  | .While _ b _ _ :: _ => b
  | _ :: r => loopOf r
  | [] => []
noncomputable abbrev rtFd (w : Wn) : FuncData := fdOf (WW w).K 700
noncomputable abbrev rtBody (w : Wn) : List Stmt := loopOf (bodyOf (rtFd w))
noncomputable abbrev rtTurn (w : Wn) (eo : Orc (WW w) 3) (ds : Ds) (q : Bool) (objs : List PO) : Option (PF × Ds × View × List Prop) := xs (mkCfg (rtFd w).scope tabs (blt _ _) eo) 60 (rtBody w) ds ⟨rtLoc q, objs⟩
noncomputable def rtRd (w : Wn) (L : List Nat) (n c : Nat) (x : PO) (rest : List PO) (h : L[n]? = some c) (hz : L.length ≤ sizeLine) : Orc (WW w) 3 := Orc.one (keep_read w) (spec_rd w L n c x rest h hz)
noncomputable def rtRd0 (w : Wn) (L : List Nat) (x : PO) (rest : List PO) (hz : L.length ≤ sizeLine) : Orc (WW w) 3 := Orc.one (keep_read w) (spec_rd0 w L x rest hz)
noncomputable abbrev lexS (cm wc : Str) (st : PV) (ln : Int) (tok : Str) (L : List Nat) (n : Nat) (rest : List PO) : List PO := lexO cm wc st ln tok :: sioO (tx L) (n : Int) :: rest
noncomputable def ncLoc (x : Str) : List (Str × PV) := [("nextchar", .s x)]
noncomputable abbrev Z0 : Prop := Str.length "" ≤ sizeLine
noncomputable abbrev Z1 (c : Nat) : Prop := Str.length ⟨#[c]⟩ ≤ sizeLine
theorem tS_ws (w : Wn) (cm wc : Str) (ln : Int) (L : List Nat) (n : Nat) (rest : List PO) (h : L[n]? = some 32) (hz : L.length ≤ sizeLine) :
    rtTurn w (rtRd w L n 32 (lexO cm wc (.s " ") ln "") rest h hz) [] false (lexS cm wc (.s " ") ln "" L n rest) =
    some (.cont, [], ⟨rtLoc false ++ ncLoc ⟨#[32]⟩, lexS cm wc (.s " ") ln "" L (n + 1) rest⟩, [Z0, false = false, Rf ([PV.o 1, PV.i 1], lexS cm wc (.s " ") ln "" L n rest), Z1 32, Z0]) := by kernel_rfl
theorem tS_q (w : Wn) (cm wc : Str) (ln : Int) (L : List Nat) (n : Nat) (rest : List PO) (h : L[n]? = some 39) (hz : L.length ≤ sizeLine) :
    rtTurn w (rtRd w L n 39 (lexO cm wc (.s " ") ln "") rest h hz) [none, none, none, none, none, none, none, some false, none, some false, none, none] false (lexS cm wc (.s " ") ln "" L n rest) =
    some (.next, [], ⟨rtLoc false ++ ncLoc ⟨#[39]⟩, lexS cm wc (.s "'") ln "" L (n + 1) rest⟩, [Z0, false = false, Rf ([PV.o 1, PV.i 1], lexS cm wc (.s " ") ln "" L n rest), Z1 39, decide (39 ∈ cm.cps.toList) = false, decide (39 ∈ wc.cps.toList) = false]) := by kernel_rfl
theorem tS_w (w : Wn) (cm wc : Str) (ln : Int) (L : List Nat) (n : Nat) (c : Nat) (rest : List PO) (h : L[n]? = some c) (hz : L.length ≤ sizeLine) :
    rtTurn w (rtRd w L n c (lexO cm wc (.s " ") ln "") rest h hz) [none, some false, none, none, none, none, some false, some false, some false, some true] false (lexS cm wc (.s " ") ln "" L n rest) =
    some (.next, [], ⟨rtLoc false ++ ncLoc ⟨#[c]⟩, lexS cm wc (.s "a") ln ⟨#[c]⟩ L (n + 1) rest⟩, [Z0, false = false, Rf ([PV.o 1, PV.i 1], lexS cm wc (.s " ") ln "" L n rest), ([c] == [10]) = false, Z1 c, decide (c ∈ [32, 9, 13, 10]) = false, decide (c ∈ cm.cps.toList) = false, (true && (decide (c ∈ [92]) && true)) = false, decide (c ∈ wc.cps.toList) = true]) := by kernel_rfl
theorem tS_o (w : Wn) (cm wc : Str) (ln : Int) (L : List Nat) (n : Nat) (c : Nat) (rest : List PO) (h : L[n]? = some c) (hz : L.length ≤ sizeLine) :
    rtTurn w (rtRd w L n c (lexO cm wc (.s " ") ln "") rest h hz) [none, some false, none, none, none, none, some false, some false, some false, some false, none, some false, none] false (lexS cm wc (.s " ") ln "" L n rest) =
    some (.next, [], ⟨rtLoc false ++ ncLoc ⟨#[c]⟩, lexS cm wc (.s "a") ln ⟨#[c]⟩ L (n + 1) rest⟩, [Z0, false = false, Rf ([PV.o 1, PV.i 1], lexS cm wc (.s " ") ln "" L n rest), ([c] == [10]) = false, Z1 c, decide (c ∈ [32, 9, 13, 10]) = false, decide (c ∈ cm.cps.toList) = false, (true && (decide (c ∈ [92]) && true)) = false, decide (c ∈ wc.cps.toList) = false, decide (c ∈ [39, 34]) = false]) := by kernel_rfl
theorem tS_eof (w : Wn) (cm wc : Str) (ln : Int) (L : List Nat) (rest : List PO) (hz : L.length ≤ sizeLine) :
    rtTurn w (rtRd0 w L (lexO cm wc (.s " ") ln "") rest hz) [] false (lexS cm wc (.s " ") ln "" L L.length rest) =
    some (.brk, [], ⟨rtLoc false ++ ncLoc "", lexS cm wc (.v .none) ln "" L L.length rest⟩, [Z0, false = false, Rf ([PV.o 1, PV.i 1], lexS cm wc (.s " ") ln "" L L.length rest), Z0]) := by kernel_rfl
theorem tQ_end (w : Wn) (cm wc : Str) (ln : Int) (tok : Str) (q : Bool) (L : List Nat) (n : Nat) (rest : List PO) (h : L[n]? = some 39) (hz : L.length ≤ sizeLine) :
    rtTurn w (rtRd w L n 39 (lexO cm wc (.s "'") ln tok) rest h hz) [] q (lexS cm wc (.s "'") ln tok L n rest) =
    some (.next, [], ⟨rtLoc true ++ ncLoc ⟨#[39]⟩, lexS cm wc (.s "a") ln tok L (n + 1) rest⟩, [Z0, false = false, Rf ([PV.o 1, PV.i 1], lexS cm wc (.s "'") ln tok L n rest), Z1 39]) := by kernel_rfl
theorem tQ_c (w : Wn) (cm wc : Str) (ln : Int) (tok : Str) (q : Bool) (L : List Nat) (n : Nat) (c : Nat) (rest : List PO) (h : L[n]? = some c) (hz : L.length ≤ sizeLine) :
    rtTurn w (rtRd w L n c (lexO cm wc (.s "'") ln tok) rest h hz) [none, some false, none, none, none, none, none, some false, some false] q (lexS cm wc (.s "'") ln tok L n rest) =
    some (.next, [], ⟨rtLoc true ++ ncLoc ⟨#[c]⟩, lexS cm wc (.s "'") ln (tok ++ ⟨#[c]⟩) L (n + 1) rest⟩, [Z0, false = false, Rf ([PV.o 1, PV.i 1], lexS cm wc (.s "'") ln tok L n rest), ([c] == [10]) = false, Z1 c, ([c] == [39]) = false, (true && (decide (c ∈ [92]) && (decide (39 ∈ [34]) && true))) = false, Str.length (tok ++ ⟨#[c]⟩) ≤ sizeLine]) := by kernel_rfl
theorem tQ_nl (w : Wn) (cm wc : Str) (ln : Int) (tok : Str) (q : Bool) (L : List Nat) (n : Nat) (rest : List PO) (h : L[n]? = some 10) (hz : L.length ≤ sizeLine) :
    rtTurn w (rtRd w L n 10 (lexO cm wc (.s "'") ln tok) rest h hz) [] q (lexS cm wc (.s "'") ln tok L n rest) =
    some (.next, [], ⟨rtLoc true ++ ncLoc ⟨#[10]⟩, lexS cm wc (.s "'") (ln + 1) (tok ++ ⟨#[10]⟩) L (n + 1) rest⟩, [Z0, false = false, Rf ([PV.o 1, PV.i 1], lexS cm wc (.s "'") ln tok L n rest), Z1 10, Str.length (tok ++ ⟨#[10]⟩) ≤ sizeLine]) := by kernel_rfl
theorem tD_end (w : Wn) (cm wc : Str) (ln : Int) (tok : Str) (q : Bool) (L : List Nat) (n : Nat) (rest : List PO) (h : L[n]? = some 34) (hz : L.length ≤ sizeLine) :
    rtTurn w (rtRd w L n 34 (lexO cm wc (.s "\"") ln tok) rest h hz) [] q (lexS cm wc (.s "\"") ln tok L n rest) =
    some (.next, [], ⟨rtLoc true ++ ncLoc ⟨#[34]⟩, lexS cm wc (.s "a") ln tok L (n + 1) rest⟩, [Z0, false = false, Rf ([PV.o 1, PV.i 1], lexS cm wc (.s "\"") ln tok L n rest), Z1 34]) := by kernel_rfl
theorem tD_c (w : Wn) (cm wc : Str) (ln : Int) (tok : Str) (q : Bool) (L : List Nat) (n : Nat) (rest : List PO) (h : L[n]? = some 39) (hz : L.length ≤ sizeLine) :
    rtTurn w (rtRd w L n 39 (lexO cm wc (.s "\"") ln tok) rest h hz) [] q (lexS cm wc (.s "\"") ln tok L n rest) =
    some (.next, [], ⟨rtLoc true ++ ncLoc ⟨#[39]⟩, lexS cm wc (.s "\"") ln (tok ++ ⟨#[39]⟩) L (n + 1) rest⟩, [Z0, false = false, Rf ([PV.o 1, PV.i 1], lexS cm wc (.s "\"") ln tok L n rest), Z1 39, Str.length (tok ++ ⟨#[39]⟩) ≤ sizeLine]) := by kernel_rfl
theorem tA_ws (w : Wn) (cm wc : Str) (ln : Int) (tok : Str) (q : Bool) (L : List Nat) (n : Nat) (rest : List PO) (h : L[n]? = some 32) (hz : L.length ≤ sizeLine) :
    rtTurn w (rtRd w L n 32 (lexO cm wc (.s "a") ln tok) rest h hz) [none, none, none, none, none, none, none, none, none, none, none, some true] q (lexS cm wc (.s "a") ln tok L n rest) =
    some (.brk, [], ⟨rtLoc q ++ ncLoc ⟨#[32]⟩, lexS cm wc (.s " ") ln tok L (n + 1) rest⟩, [Z0, false = false, Rf ([PV.o 1, PV.i 1], lexS cm wc (.s "a") ln tok L n rest), Z1 32, tok.length ≤ sizeLine, ((!tok.cps.toList.isEmpty) || ((true && (q && true)) || false)) = true]) := by kernel_rfl
theorem tA_eof (w : Wn) (cm wc : Str) (ln : Int) (tok : Str) (q : Bool) (L : List Nat) (rest : List PO) (hz : L.length ≤ sizeLine) :
    rtTurn w (rtRd0 w L (lexO cm wc (.s "a") ln tok) rest hz) [] q (lexS cm wc (.s "a") ln tok L L.length rest) =
    some (.brk, [], ⟨rtLoc q ++ ncLoc "", lexS cm wc (.v .none) ln tok L L.length rest⟩, [Z0, false = false, Rf ([PV.o 1, PV.i 1], lexS cm wc (.s "a") ln tok L L.length rest), Z0]) := by kernel_rfl
theorem tA_q (w : Wn) (cm wc : Str) (ln : Int) (tok : Str) (q : Bool) (L : List Nat) (n : Nat) (rest : List PO) (h : L[n]? = some 39) (hz : L.length ≤ sizeLine) :
    rtTurn w (rtRd w L n 39 (lexO cm wc (.s "a") ln tok) rest h hz) [none, none, none, none, none, none, none, none, none, none, some false] q (lexS cm wc (.s "a") ln tok L n rest) =
    some (.next, [], ⟨rtLoc q ++ ncLoc ⟨#[39]⟩, lexS cm wc (.s "'") ln tok L (n + 1) rest⟩, [Z0, false = false, Rf ([PV.o 1, PV.i 1], lexS cm wc (.s "a") ln tok L n rest), Z1 39, decide (39 ∈ cm.cps.toList) = false]) := by kernel_rfl
theorem tA_d (w : Wn) (cm wc : Str) (ln : Int) (tok : Str) (q : Bool) (L : List Nat) (n : Nat) (rest : List PO) (h : L[n]? = some 34) (hz : L.length ≤ sizeLine) :
    rtTurn w (rtRd w L n 34 (lexO cm wc (.s "a") ln tok) rest h hz) [none, none, none, none, none, none, none, none, none, none, some false] q (lexS cm wc (.s "a") ln tok L n rest) =
    some (.next, [], ⟨rtLoc q ++ ncLoc ⟨#[34]⟩, lexS cm wc (.s "\"") ln tok L (n + 1) rest⟩, [Z0, false = false, Rf ([PV.o 1, PV.i 1], lexS cm wc (.s "a") ln tok L n rest), Z1 34, decide (34 ∈ cm.cps.toList) = false]) := by kernel_rfl
theorem tA_c (w : Wn) (cm wc : Str) (ln : Int) (tok : Str) (q : Bool) (L : List Nat) (n : Nat) (c : Nat) (rest : List PO) (h : L[n]? = some c) (hz : L.length ≤ sizeLine) :
    rtTurn w (rtRd w L n c (lexO cm wc (.s "a") ln tok) rest h hz) [none, some false, none, none, none, none, none, none, none, some false, some false, none, some false, some false, some true] q (lexS cm wc (.s "a") ln tok L n rest) =
    some (.next, [], ⟨rtLoc q ++ ncLoc ⟨#[c]⟩, lexS cm wc (.s "a") ln (tok ++ ⟨#[c]⟩) L (n + 1) rest⟩, [Z0, false = false, Rf ([PV.o 1, PV.i 1], lexS cm wc (.s "a") ln tok L n rest), ([c] == [10]) = false, Z1 c, decide (c ∈ [32, 9, 13, 10]) = false, decide (c ∈ cm.cps.toList) = false, (true && (decide (c ∈ [39, 34]) && true)) = false, (true && (decide (c ∈ [92]) && true)) = false, (decide (c ∈ wc.cps.toList) || (decide (c ∈ [39, 34]) || ((true && (!decide (c ∈ ([] : List Nat)) && true)) || false))) = true, Str.length (tok ++ ⟨#[c]⟩) ≤ sizeLine]) := by kernel_rfl
end oL2c
section oL2d
inductive LS where
  | sp | aa | sq | dq
set_option backward.match.sparseCases false in
noncomputable def LS.pv : LS → PV
  | .sp => .s " "
  | .aa => .s "a"
  | .sq => .s "'"
  | .dq => .s "\""
noncomputable def plainC (cm : List Nat) (c : Nat) : Bool := !([32, 9, 13, 10, 39, 34, 92].contains c) && !(cm.contains c)
set_option backward.match.sparseCases false in
noncomputable def rdT (cm : List Nat) : List Nat → LS → Bool → List Nat → Option (Bool × Bool × List Nat × List Nat)
  | [], s, q, t => (match s with
    | .sp => some (true, q, t, [])
    | .aa => some (true, q, t, [])
    | .sq => none
    | .dq => none)
  | c :: r, s, q, t => (match s with
    | .sp => if c = 32 then rdT cm r .sp q t else if c = 39 then rdT cm r .sq q t else if plainC cm c then rdT cm r .aa q [c] else none
    | .aa => if c = 32 then (if !t.isEmpty || q then some (false, q, t, r) else none) else if c = 39 then rdT cm r .sq q t else if c = 34 then rdT cm r .dq q t else if plainC cm c then rdT cm r .aa q (t ++ [c]) else none
    | .sq => if c = 39 then rdT cm r .aa true t else rdT cm r .sq true (t ++ [c])
    | .dq => if c = 34 then rdT cm r .aa true t else if c = 39 then rdT cm r .dq true (t ++ [c]) else none)
section
variable (cm : List Nat) (c : Nat) (r : List Nat) (q : Bool) (t : List Nat)
theorem rd_sp : rdT cm (c :: r) .sp q t = if c = 32 then rdT cm r .sp q t else if c = 39 then rdT cm r .sq q t else if plainC cm c then rdT cm r .aa q [c] else none := rfl
theorem rd_aa : rdT cm (c :: r) .aa q t = if c = 32 then (if !t.isEmpty || q then some (false, q, t, r) else none) else if c = 39 then rdT cm r .sq q t else if c = 34 then rdT cm r .dq q t else if plainC cm c then rdT cm r .aa q (t ++ [c]) else none := rfl
theorem rd_sq : rdT cm (c :: r) .sq q t = if c = 39 then rdT cm r .aa true t else rdT cm r .sq true (t ++ [c]) := rfl
theorem rd_dq : rdT cm (c :: r) .dq q t = if c = 34 then rdT cm r .aa true t else if c = 39 then rdT cm r .dq true (t ++ [c]) else none := rfl
end
theorem ite_or {α : Type} {p : Prop} [Decidable p] {a b x : α} (h : (if p then a else b) = x) : a = x ∨ b = x := by
  by_cases g : p
  · rw [if_pos g] at h; exact .inl h
  · rw [if_neg g] at h; exact .inr h
theorem rd_len {cm : List Nat} {q' : Bool} {t' rem : List Nat} (r : List Nat) : ∀ (st : LS) (q : Bool) (t : List Nat), rdT cm r st q t = some (true, q', t', rem) → rem = [] := by
  induction r with
  | nil => intro st q t h; cases st <;> first | exact no h | (cases h; rfl)
  | cons c r ih =>
    intro st q t h
    cases st with
    | sp => exact (ite_or h).elim (ih _ _ _) fun h => (ite_or h).elim (ih _ _ _) fun h => (ite_or h).elim (ih _ _ _) fun h => no h
    | aa => exact (ite_or h).elim (fun h => (ite_or h).elim (fun h => nomatch h) fun h => no h) fun h => (ite_or h).elim (ih _ _ _) fun h => (ite_or h).elim (ih _ _ _) fun h => (ite_or h).elim (ih _ _ _) fun h => no h
    | sq => exact (ite_or h).elim (ih _ _ _) (ih _ _ _)
    | dq => exact (ite_or h).elim (ih _ _ _) fun h => (ite_or h).elim (ih _ _ _) fun h => no h
theorem tx_snoc (t : List Nat) (c : Nat) : tx t ++ ⟨#[c]⟩ = tx (t ++ [c]) := by
  show (⟨⟨t⟩ ++ #[c]⟩ : Str) = _
  simp [tx]
theorem tx_nil : ("" : Str) = tx [] := by decide +kernel
theorem z0_ok : Z0 := by show Str.length "" ≤ sizeLine; rw [tx_nil]; show 0 ≤ _; exact Nat.zero_le _
theorem z1_ok (c : Nat) : Z1 c := by show 1 ≤ sizeLine; rw [sizeLine_eq]; decide
structure RtC (w : Wn) (c : Fc) : Prop where
  ok : c.Ok
  e : c.toWd = WW w
  room : Room c.A.in1 3
  hs : c.env.scope = (rtFd w).scope
theorem turn_ok {w : Wn} {c : Fc} (R : RtC w c) {eo : Orc (WW w) 3} {ds : Ds} {q q' : Bool} {objs objs' : List PO} {f : PF} {ex : List (Str × PV)} {P : List Prop} (h : rtTurn w eo ds q objs = some (f, [], ⟨rtLoc q' ++ ex, objs'⟩, P)) (hP : AllP P) : ExOk c (rtBody w) ⟨rtLoc q, objs⟩ f ⟨rtLoc q', objs'⟩ :=
  ExOk.drop ((sx_sound R.ok (mkCfg_ok (t := tabs) (po := blt _ _) (eo := eo) R.ok R.e R.room (by decide) R.hs (tabs_ok w)) 60).2 _ _ _ _ _ _ _ h hP)
noncomputable abbrev rtV (cm wc : Str) (st : PV) (ln : Int) (q : Bool) (t L : List Nat) (n : Nat) (rest : List PO) : View := ⟨rtLoc q, lexS cm wc st ln (tx t) L n rest⟩
set_option backward.match.sparseCases false in
noncomputable def isTrueC : Const → Bool
  | .bool b => b
  | _ => false
set_option backward.match.sparseCases false in
noncomputable def tcon : Expr → Bool
  | .Constant c _ _ => isTrueC c
  | _ => false
theorem tvT {c : Fc} {V : View} {tt : Expr} (h : tcon tt = true) : TvOk c tt V true V := by
  cases tt with
  | Constant k u p =>
    cases k with
    | bool b => cases (show b = true from h); exact tv_true
    | _ => exact nof h
  | _ => exact nof h
noncomputable abbrev RdR := Bool × Bool × List Nat × List Nat
noncomputable abbrev RdF := LS → Bool → List Nat → Option RdR
noncomputable def rdSp (F : RdF) (cm : List Nat) (c : Nat) (q : Bool) (t : List Nat) : Option RdR := if c = 32 then F .sp q t else if c = 39 then F .sq q t else if plainC cm c then F .aa q [c] else none
noncomputable def rdAa (F : RdF) (cm : List Nat) (c : Nat) (r : List Nat) (q : Bool) (t : List Nat) : Option RdR := if c = 32 then (if !t.isEmpty || q then some (false, q, t, r) else none) else if c = 39 then F .sq q t else if c = 34 then F .dq q t else if plainC cm c then F .aa q (t ++ [c]) else none
noncomputable def rdSq (F : RdF) (c : Nat) (t : List Nat) : Option RdR := if c = 39 then F .aa true t else F .sq true (t ++ [c])
noncomputable def rdDq (F : RdF) (c : Nat) (t : List Nat) : Option RdR := if c = 34 then F .aa true t else if c = 39 then F .dq true (t ++ [c]) else none
theorem ifs {α : Type} {p : Prop} [Decidable p] {x y : Option α} {b : α} (h : (if p then x else y) = some b) : (p ∧ x = some b) ∨ (¬ p ∧ y = some b) := by
  by_cases hp : p
  · rw [if_pos hp] at h; exact .inl ⟨hp, h⟩
  · rw [if_neg hp] at h; exact .inr ⟨hp, h⟩
structure Pl4 (cm : List Nat) (a : Nat) : Prop where
  ws : a ≠ 32 ∧ a ≠ 9 ∧ a ≠ 13 ∧ a ≠ 10
  q : a ≠ 39 ∧ a ≠ 34
  bs : a ≠ 92
  cm : a ∉ cm
theorem plain_is {cm : List Nat} {a : Nat} (g : plainC cm a = true) : Pl4 cm a := by
  unfold plainC at g
  simp at g
  obtain ⟨⟨g3, g4, g5, g6, g7, g8, g9⟩, g10⟩ := g
  exact ⟨⟨g3, g4, g5, g6⟩, ⟨g7, g8⟩, g9, g10⟩
section
variable {w : Wn} {tt : Expr} {cm wc : Str} {rest : List PO} {L : List Nat} {o : RdR} {st st1 : LS} {q q1 : Bool} {t t1 : List Nat} {ln ln1 : Int} {n a : Nat} {f : PF} {F : RdF} {r : List Nat}
noncomputable def RtTo (w : Wn) (tt : Expr) (cm wc : Str) (rest : List PO) (L : List Nat) (o : RdR) (st : LS) (q : Bool) (t : List Nat) (ln : Int) (n : Nat) : Prop :=
  ∃ ln' n', L.drop n' = o.2.2.2 ∧ n' ≤ L.length ∧ ∀ c, RtC w c → ∃ m, LoopN c tt (rtBody w) m (rtV cm wc st.pv ln q t L n rest) .next (rtV cm wc (if o.1 then .v .none else .s " ") ln' o.2.1 o.2.2.1 L n' rest)
noncomputable abbrev RtTurn (w : Wn) (cm wc : Str) (rest : List PO) (L : List Nat) (st : LS) (q : Bool) (t : List Nat) (ln : Int) (n : Nat) (f : PF) (st1 : LS) (q1 : Bool) (t1 : List Nat) (ln1 : Int) : Prop :=
  ∀ c, RtC w c → ExOk c (rtBody w) (rtV cm wc st.pv ln q t L n rest) f (rtV cm wc st1.pv ln1 q1 t1 L (n + 1) rest)
theorem RtTo.step (htt : tcon tt = true) (x : RtTo w tt cm wc rest L o st1 q1 t1 ln1 (n + 1)) (hf : f = .next ∨ f = .cont) (turn : RtTurn w cm wc rest L st q t ln n f st1 q1 t1 ln1) : RtTo w tt cm wc rest L o st q t ln n :=
  let ⟨ln', n', h1, h2, hl⟩ := x
  ⟨ln', n', h1, h2, fun c R => let ⟨m, hl⟩ := hl c R; ⟨m + 1, .step (tvT htt) (turn c R) hf hl⟩⟩
set_option backward.match.sparseCases false in
noncomputable def stOk (st : LS) (q : Bool) (t : List Nat) : Prop := match st with
  | .sp => q = false ∧ t = []
  | _ => True
noncomputable abbrev RtIh (w : Wn) (tt : Expr) (cm wc : Str) (rest : List PO) (L : List Nat) (o : RdR) (F : RdF) (r : List Nat) (n : Nat) : Prop :=
  ∀ (st : LS) (q : Bool) (t : List Nat) (ln : Int), F st q t = some o → t.length + r.length ≤ L.length → stOk st q t → RtTo w tt cm wc rest L o st q t ln (n + 1)
theorem zt_ok {t : List Nat} {a k : Nat} (hz : L.length ≤ sizeLine) (ht : t.length + (k + 1) ≤ L.length) : Str.length (tx t ++ ⟨#[a]⟩) ≤ sizeLine := by rw [tx_snoc, tx_len, List.length_append]; exact Nat.le_trans (by show t.length + 1 ≤ _; omega) (Nat.le_trans ht hz)
theorem len_snoc {t : List Nat} {a k : Nat} (ht : t.length + (k + 1) ≤ L.length) : (t ++ [a]).length + k ≤ L.length := by rw [List.length_append]; show t.length + 1 + k ≤ _; omega
theorem len_keep {t : List Nat} {k : Nat} (ht : t.length + (k + 1) ≤ L.length) : t.length + k ≤ L.length := Nat.le_trans (Nat.add_le_add_left (Nat.le_succ k) _) ht
theorem rt_plain (hz : L.length ≤ sizeLine) (ha : L[n]? = some a) (g : Pl4 cm.cps.toList a) : RtTurn w cm wc rest L .sp false [] ln n .next .aa false [a] ln := fun c R => by
  obtain ⟨⟨g3, g4, g5, g6⟩, ⟨g7, g8⟩, g9, g10⟩ := g
  by_cases hw : a ∈ wc.cps.toList
  · exact turn_ok R (tS_w w cm wc ln L n a rest ha hz) ⟨z0_ok, rfl, rfl, by simp [g6], z1_ok _, by simp [g3, g4, g5, g6], by simpa using g10, by simp [g9], by simpa using hw, trivial⟩
  · exact turn_ok R (tS_o w cm wc ln L n a rest ha hz) ⟨z0_ok, rfl, rfl, by simp [g6], z1_ok _, by simp [g3, g4, g5, g6], by simpa using g10, by simp [g9], by simpa using hw, by simp [g7, g8], trivial⟩
theorem rt_sp (htt : tcon tt = true) (hz : L.length ≤ sizeLine) (hcm : 39 ∉ cm.cps.toList) (hwc : 39 ∉ wc.cps.toList) (ha : L[n]? = some a) (hr : r.length + 1 ≤ L.length) (ih : RtIh w tt cm wc rest L o F r n) (h : rdSp F cm.cps.toList a false [] = some o) : RtTo w tt cm wc rest L o .sp false [] ln n := by
  have l0 : ([] : List Nat).length + r.length ≤ L.length := len_keep (t := []) (by rw [List.length_nil, Nat.zero_add]; exact hr)
  rcases ifs h with ⟨g, h⟩ | ⟨_, h⟩
  · subst g
    exact (ih .sp false [] ln h l0 ⟨rfl, rfl⟩).step htt (.inr rfl) fun c R => turn_ok R (tS_ws w cm wc ln L n rest ha hz) ⟨z0_ok, rfl, rfl, z1_ok _, z0_ok, trivial⟩
  rcases ifs h with ⟨g, h⟩ | ⟨_, h⟩
  · subst g
    exact (ih .sq false [] ln h l0 trivial).step htt (.inl rfl) fun c R => turn_ok R (tS_q w cm wc ln L n rest ha hz) ⟨z0_ok, rfl, rfl, z1_ok _, by simpa using hcm, by simpa using hwc, trivial⟩
  obtain ⟨g, h⟩ := oi h
  exact (ih .aa false [a] ln h (len_snoc (t := []) (by rw [List.length_nil, Nat.zero_add]; exact hr)) trivial).step htt (.inl rfl) (rt_plain hz ha (plain_is g))
theorem rt_aa (htt : tcon tt = true) (hz : L.length ≤ sizeLine) (hcm : (39 ∉ cm.cps.toList) ∧ (34 ∉ cm.cps.toList)) (ha : L[n]? = some a) (hn : n < L.length) (hd : L.drop (n + 1) = r) (ht : t.length + (r.length + 1) ≤ L.length) (ih : RtIh w tt cm wc rest L o F r n) (h : rdAa F cm.cps.toList a r q t = some o) : RtTo w tt cm wc rest L o .aa q t ln n := by
  rcases ifs h with ⟨g, h⟩ | ⟨_, h⟩
  · subst g
    obtain ⟨gq, h2⟩ := oi (p := (!t.isEmpty || q) = true) (x := some (false, q, t, r)) h
    have ho : o = (false, q, t, r) := (Option.some.inj h2).symm
    subst ho
    refine ⟨ln, n + 1, hd, hn, fun c R => ⟨0, .brk (tvT htt) (turn_ok R (tA_ws w cm wc ln (tx t) q L n rest ha hz) ⟨z0_ok, rfl, rfl, z1_ok _, by rw [tx_len]; omega, ?_, trivial⟩)⟩⟩
    show ((!t.isEmpty) || ((true && (q && true)) || false)) = true
    simpa using gq
  rcases ifs h with ⟨g, h⟩ | ⟨_, h⟩
  · subst g
    exact (ih .sq q t ln h (len_keep ht) trivial).step htt (.inl rfl) fun c R => turn_ok R (tA_q w cm wc ln (tx t) q L n rest ha hz) ⟨z0_ok, rfl, rfl, z1_ok _, by simpa using hcm.1, trivial⟩
  rcases ifs h with ⟨g, h⟩ | ⟨_, h⟩
  · subst g
    exact (ih .dq q t ln h (len_keep ht) trivial).step htt (.inl rfl) fun c R => turn_ok R (tA_d w cm wc ln (tx t) q L n rest ha hz) ⟨z0_ok, rfl, rfl, z1_ok _, by simpa using hcm.2, trivial⟩
  obtain ⟨g, h⟩ := oi h
  obtain ⟨⟨g3, g4, g5, g6⟩, ⟨g7, g8⟩, g9, g10⟩ := plain_is g
  refine (ih .aa q (t ++ [a]) ln h (len_snoc ht) trivial).step (f := .next) htt (.inl rfl) fun c R => ?_
  have z := turn_ok R (tA_c w cm wc ln (tx t) q L n a rest ha hz) ⟨z0_ok, rfl, rfl, by simp [g6], z1_ok _, by simp [g3, g4, g5, g6], by simpa using g10, by simp [g7, g8], by simp [g9], by simp, zt_ok hz ht, trivial⟩
  rwa [tx_snoc] at z
theorem rt_sq (htt : tcon tt = true) (hz : L.length ≤ sizeLine) (ha : L[n]? = some a) (ht : t.length + (r.length + 1) ≤ L.length) (ih : RtIh w tt cm wc rest L o F r n) (h : rdSq F a t = some o) : RtTo w tt cm wc rest L o .sq q t ln n := by
  rcases ifs h with ⟨g, h⟩ | ⟨g, h⟩
  · subst g
    exact (ih .aa true t ln h (len_keep ht) trivial).step htt (.inl rfl) fun c R => turn_ok R (tQ_end w cm wc ln (tx t) q L n rest ha hz) ⟨z0_ok, rfl, rfl, z1_ok _, trivial⟩
  by_cases g10 : a = 10
  · subst g10
    refine (ih .sq true (t ++ [10]) (ln + 1) h (len_snoc ht) trivial).step (f := .next) htt (.inl rfl) fun c R => ?_
    have z := turn_ok R (tQ_nl w cm wc ln (tx t) q L n rest ha hz) ⟨z0_ok, rfl, rfl, z1_ok _, zt_ok hz ht, trivial⟩
    rwa [tx_snoc] at z
  · refine (ih .sq true (t ++ [a]) ln h (len_snoc ht) trivial).step (f := .next) htt (.inl rfl) fun c R => ?_
    have z := turn_ok R (tQ_c w cm wc ln (tx t) q L n a rest ha hz) ⟨z0_ok, rfl, rfl, by simp [g10], z1_ok _, by simp [g], by simp, zt_ok hz ht, trivial⟩
    rwa [tx_snoc] at z
theorem rt_dq (htt : tcon tt = true) (hz : L.length ≤ sizeLine) (ha : L[n]? = some a) (ht : t.length + (r.length + 1) ≤ L.length) (ih : RtIh w tt cm wc rest L o F r n) (h : rdDq F a t = some o) : RtTo w tt cm wc rest L o .dq q t ln n := by
  rcases ifs h with ⟨g, h⟩ | ⟨_, h⟩
  · subst g
    exact (ih .aa true t ln h (len_keep ht) trivial).step htt (.inl rfl) fun c R => turn_ok R (tD_end w cm wc ln (tx t) q L n rest ha hz) ⟨z0_ok, rfl, rfl, z1_ok _, trivial⟩
  obtain ⟨g, h⟩ := oi h
  subst g
  refine (ih .dq true (t ++ [39]) ln h (len_snoc ht) trivial).step (f := .next) htt (.inl rfl) fun c R => ?_
  have z := turn_ok R (tD_c w cm wc ln (tx t) q L n rest ha hz) ⟨z0_ok, rfl, rfl, z1_ok _, zt_ok hz ht, trivial⟩
  rwa [tx_snoc] at z
theorem rt_end (htt : tcon tt = true) (hz : L.length ≤ sizeLine) (hs : stOk st q t) (h : rdT cm.cps.toList [] st q t = some o) : RtTo w tt cm wc rest L o st q t ln L.length := by
  have hd : L.drop L.length = [] := List.drop_length
  cases st with
  | sp =>
    obtain ⟨rfl, rfl⟩ := hs
    cases h
    exact ⟨ln, L.length, hd, Nat.le_refl _, fun c R => ⟨0, .brk (tvT htt) (turn_ok R (tS_eof w cm wc ln L rest hz) ⟨z0_ok, rfl, rfl, z0_ok, trivial⟩)⟩⟩
  | aa =>
    cases h
    exact ⟨ln, L.length, hd, Nat.le_refl _, fun c R => ⟨0, .brk (tvT htt) (turn_ok R (tA_eof w cm wc ln (tx t) q L rest hz) ⟨z0_ok, rfl, rfl, z0_ok, trivial⟩)⟩⟩
  | sq => exact no h
  | dq => exact no h
theorem rt_go (htt : tcon tt = true) (hz : L.length ≤ sizeLine) (hcm : (39 ∉ cm.cps.toList) ∧ (34 ∉ cm.cps.toList)) (hwc : 39 ∉ wc.cps.toList) : ∀ (r : List Nat) (st : LS) (q : Bool) (t : List Nat) (ln : Int) (n : Nat), rdT cm.cps.toList r st q t = some o → L.drop n = r → n ≤ L.length → t.length + r.length ≤ L.length → stOk st q t → RtTo w tt cm wc rest L o st q t ln n := by
  intro r
  induction r with
  | nil =>
    intro st q t ln n h hd hn ht hs
    have en : n = L.length := Nat.le_antisymm hn (List.drop_eq_nil_iff.mp hd)
    subst en
    exact rt_end htt hz hs h
  | cons a r ih =>
    intro st q t ln n h hd hn ht hs
    have hln : n < L.length := by
      have := congrArg List.length hd
      rw [List.length_drop, List.length_cons] at this
      omega
    have ha : L[n]? = some a := by
      have : (L.drop n)[0]? = some a := by rw [hd]; rfl
      rwa [List.getElem?_drop] at this
    have hd' : L.drop (n + 1) = r := by
      rw [← List.drop_drop, hd]; rfl
    have ih' : RtIh w tt cm wc rest L o (rdT cm.cps.toList r) r n := fun st q t ln h ht hs => ih st q t ln (n + 1) h hd' hln ht hs
    cases st with
    | sp =>
      obtain ⟨rfl, rfl⟩ := hs
      exact rt_sp htt hz hcm.1 hwc ha (by rw [List.length_nil, Nat.zero_add] at ht; exact ht) ih' h
    | aa => exact rt_aa htt hz hcm ha hln hd' ht ih' h
    | sq => exact rt_sq htt hz ha ht ih' h
    | dq => exact rt_dq htt hz ha ht ih' h
end
theorem rt_loop {w : Wn} {tt : Expr} (htt : tcon tt = true) {cm wc : Str} {rest : List PO} {L : List Nat} (hz : L.length ≤ sizeLine) (hcm : (39 ∉ cm.cps.toList) ∧ (34 ∉ cm.cps.toList)) (hwc : 39 ∉ wc.cps.toList)
    (r : List Nat) (st : LS) (q : Bool) (t : List Nat) (ln : Int) (n : Nat) (eof q' : Bool) (t' rem : List Nat) (h : rdT cm.cps.toList r st q t = some (eof, q', t', rem)) (hd : L.drop n = r) (hn : n ≤ L.length) (ht : t.length + r.length ≤ L.length) (hs : stOk st q t) :
      ∃ ln' n', L.drop n' = rem ∧ n' ≤ L.length ∧ ∀ c, RtC w c → ∃ m, LoopN c tt (rtBody w) m (rtV cm wc st.pv ln q t L n rest) .next (rtV cm wc (if eof then .v .none else .s " ") ln' q' t' L n' rest) := rt_go htt hz hcm hwc r st q t ln n h hd hn ht hs
end oL2d
section oL2e
theorem tN_eof (w : Wn) (cm wc : Str) (ln : Int) (L : List Nat) (rest : List PO) (hz : L.length ≤ sizeLine) :
    rtTurn w (rtRd0 w L (lexO cm wc (.v .none) ln "") rest hz) [] false (lexS cm wc (.v .none) ln "" L L.length rest) =
    some (.brk, [], ⟨rtLoc false ++ ncLoc "", lexS cm wc (.v .none) ln "" L L.length rest⟩, [Z0, false = false, Rf ([PV.o 1, PV.i 1], lexS cm wc (.v .none) ln "" L L.length rest)]) := by kernel_rfl
noncomputable abbrev rtCfg (w : Wn) : Cfg := mkCfg (W := WW w) (D := 3) (rtFd w).scope tabs (blt _ _) (.none _ _)
theorem rt_pre (w : Wn) (objs : List PO) : xs (rtCfg w) 60 (preW (bodyOf (rtFd w))) [] ⟨[("self", .o 0)], objs⟩ = some (.next, [], ⟨rtLoc false, objs⟩, []) := by kernel_rfl
theorem rt_post0 (w : Wn) (cm wc : Str) (st : PV) (ln : Int) (L : List Nat) (n : Nat) (rest : List PO) : xr (rtCfg w) 60 (postW (bodyOf (rtFd w))) [] ⟨rtLoc false, lexS cm wc st ln (tx []) L n rest⟩ = some (.ret (.v .none), lexS cm wc st ln "" L n rest, []) := by kernel_rfl
theorem rt_post (w : Wn) (cm wc : Str) (st : PV) (ln : Int) (t L : List Nat) (q : Bool) (n : Nat) (rest : List PO) : xr (rtCfg w) 60 (postW (bodyOf (rtFd w))) [some false] ⟨rtLoc q, lexS cm wc st ln (tx t) L n rest⟩ =
    some (.ret (.s (tx t)), lexS cm wc st ln "" L n rest, [(true && (!q && ((t == []) && true))) = false]) := by kernel_rfl
theorem rt_split (w : Wn) : (splitW (bodyOf (rtFd w))).isSome = true := by kernel_rfl
theorem rt_bodyW (w : Wn) : bodyW (bodyOf (rtFd w)) = rtBody w := by kernel_rfl
theorem rt_test (w : Wn) : tcon (testW (bodyOf (rtFd w))) = true := by kernel_rfl
theorem rt_def (w : Wn) : defOk (WW w).K 700 ["self"] = true := by kernel_rfl
theorem rt_bind (w : Wn) (v : Value) : runPure (WW w).K 30 (bindArgs (rtFd w) ⟨[v], []⟩) = some ([("self", v)] : List (Str × Value)) := by kernel_rfl
theorem keep_rt (w : Wn) : keepOk (WW w).K (.ref 700) = true := by kernel_rfl
noncomputable def tokP (q : Bool) (t : List Nat) : PV := if !q && t.isEmpty then .v .none else .s (tx t)
theorem rt_from {w : Wn} {cm wc : Str} {st st' : PV} {ln ln' : Int} {L t' : List Nat} {n n' : Nat} {q' : Bool} {rest : List PO}
    (hl : ∀ c : Fc, RtC w c → ∃ m, LoopN c (testW (bodyOf (rtFd w))) (rtBody w) m (rtV cm wc st ln false [] L n rest) .next (rtV cm wc st' ln' q' t' L n' rest)) :
    Spec (WW w) 4 (.ref 700) [.o 0] (lexS cm wc st ln "" L n rest) (tokP q' t') (lexS cm wc st' ln' "" L n' rest) := by
  refine SpecC.spec (spec_body (D := 3) (fl := .ret (tokP q' t')) (loc := [("self", .o 0)]) (rt_def w) rfl (fun T ρ s vs B hT ia => ?_) fun c ok e room hs => ?_)
  · obtain ⟨v, rfl, i⟩ := isL1 ia
    exact ⟨_, rt_bind w v, rfl, .cons i .nil⟩
  · have gk := mkCfg_ok (t := tabs) (po := blt (WW w) 3) (eo := .none _ _) ok e room (by decide) hs (tabs_ok w)
    obtain ⟨m, hl⟩ := hl c ⟨ok, e, room, hs⟩
    have post : ∃ V', ExOk c (postW (bodyOf (rtFd w))) (rtV cm wc st' ln' q' t' L n' rest) (.ret (tokP q' t')) V' ∧ V'.objs = lexS cm wc st' ln' "" L n' rest := by
      cases hq : (!q' && t'.isEmpty) with
      | true =>
        obtain ⟨g1, g2⟩ := Bool.and_eq_true_iff.mp hq
        have e1 : q' = false := by simpa using g1
        have e2 : t' = [] := by simpa using g2
        subst e1 e2
        obtain ⟨ds', V', run, ho⟩ := xr_ok (rt_post0 w cm wc st' ln' L n' rest)
        exact ⟨V', (sx_sound ok gk 60).2 _ _ _ _ _ _ _ run trivial, ho⟩
      | false =>
        obtain ⟨ds', V', run, ho⟩ := xr_ok (rt_post w cm wc st' ln' t' L q' n' rest)
        have : tokP q' t' = .s (tx t') := by unfold tokP; rw [hq]; rfl
        rw [this]
        refine ⟨V', (sx_sound ok gk 60).2 _ _ _ _ _ _ _ run ⟨?_, trivial⟩, ho⟩
        cases t' <;> simp_all
    obtain ⟨V', post, ho⟩ := post
    refine ⟨V', ?_, ho⟩
    rw [splitW_is (rt_split w)]
    refine xs_app ok gk (rt_pre w _) trivial (ex_cons (sx_while (n := m) ?_) post)
    rw [rt_bodyW]
    exact hl
theorem spec_rt {w : Wn} {cm wc : Str} {L : List Nat} {n : Nat} {ln : Int} {rest : List PO} {eof q' : Bool} {t' rem : List Nat} (hz : L.length ≤ sizeLine) (hcm : (39 ∉ cm.cps.toList) ∧ (34 ∉ cm.cps.toList)) (hwc : 39 ∉ wc.cps.toList) (hn : n ≤ L.length) (h : rdT cm.cps.toList (L.drop n) .sp false [] = some (eof, q', t', rem)) :
    ∃ ln' n', L.drop n' = rem ∧ n' ≤ L.length ∧ Spec (WW w) 4 (.ref 700) [.o 0] (lexS cm wc (.s " ") ln "" L n rest) (tokP q' t') (lexS cm wc (if eof then .v .none else .s " ") ln' "" L n' rest) := by
  obtain ⟨ln', n', h1, h2, hl⟩ := rt_loop (w := w) (wc := wc) (rest := rest) (rt_test w) hz hcm hwc (L.drop n) .sp false [] ln n eof q' t' rem h rfl hn (by simp) ⟨rfl, rfl⟩
  exact ⟨ln', n', h1, h2, rt_from hl⟩
theorem spec_rtN {w : Wn} {cm wc : Str} {L : List Nat} {ln : Int} {rest : List PO} (hz : L.length ≤ sizeLine) : Spec (WW w) 4 (.ref 700) [.o 0] (lexS cm wc (.v .none) ln "" L L.length rest) (.v .none) (lexS cm wc (.v .none) ln "" L L.length rest) :=
  rt_from (q' := false) (t' := []) fun c R => ⟨0, .brk (tvT (rt_test w)) (turn_ok R (tN_eof w cm wc ln L rest hz) ⟨z0_ok, rfl, rfl, trivial⟩)⟩
end oL2e
section oL2f
noncomputable abbrev gtFd (w : Wn) : FuncData := fdOf (WW w).K 693
theorem gt_split (w : Wn) : (splitW (bodyOf (gtFd w))).isSome = true := by kernel_rfl
noncomputable abbrev lexE (cm wc : Str) (st : PV) (ln : Int) (L : List Nat) (n : Nat) (rest : List PO) : List PO := lexS cm wc st ln "" L n (.dq [] :: .dq [] :: rest)
noncomputable abbrev RtIs (w : Wn) (cm wc : Str) (st st' : PV) (ln ln' : Int) (L : List Nat) (n n' : Nat) (r : PV) (rest : List PO) : Prop := Spec (WW w) 4 (.ref 700) [.o 0] (lexE cm wc st ln L n rest) r (lexE cm wc st' ln' L n' rest)
noncomputable abbrev gtCfg {w : Wn} {cm wc : Str} {st st' : PV} {ln ln' : Int} {L : List Nat} {n n' : Nat} {r : PV} {rest : List PO} (h : RtIs w cm wc st st' ln ln' L n n' r rest) : Cfg := mkCfg (gtFd w).scope tabs (blt _ _) (Orc.one (keep_rt w) h)
noncomputable abbrev Zq : Prop := List.length ([] : List PV) < 2 ^ 62
noncomputable abbrev gtLoc (r : PV) : List (Str × PV) := [("self", .o 0), ("raw", r)]
section
variable (w : Wn) (cm wc : Str) (st st' : PV) (ln ln' : Int) (L : List Nat) (n n' : Nat) (r : PV) (rest : List PO)
theorem gt_pre (h : RtIs w cm wc st st' ln ln' L n n' r rest) : xs (gtCfg h) 60 (preW (bodyOf (gtFd w))) [] ⟨[("self", .o 0)], lexE cm wc st ln L n rest⟩ =
    some (.next, [], ⟨gtLoc r, lexE cm wc st' ln' L n' rest⟩, [Zq, Rf ([PV.o 0], lexE cm wc st ln L n rest)]) := by kernel_rfl
theorem gt_testS (t : Str) (h : RtIs w cm wc st st' ln ln' L n n' (.s t) rest) : pt (gtCfg h) 60 (testW (bodyOf (gtFd w))) ⟨gtLoc (.s t), lexE cm wc st' ln' L n' rest⟩ = some (false, []) := by kernel_rfl
theorem gt_testN (h : RtIs w cm wc st st' ln ln' L n n' (.v .none) rest) : pt (gtCfg h) 60 (testW (bodyOf (gtFd w))) ⟨gtLoc (.v .none), lexE cm wc st' ln' L n' rest⟩ = some (true, []) := by kernel_rfl
theorem gt_postS (t : Str) (h : RtIs w cm wc st st' ln ln' L n n' (.s t) rest) : xr (gtCfg h) 60 (postW (bodyOf (gtFd w))) [] ⟨gtLoc (.s t), lexE cm wc st' ln' L n' rest⟩ = some (.ret (.s t), lexE cm wc st' ln' L n' rest, []) := by kernel_rfl
theorem gt_bodyN (h : RtIs w cm wc st st' ln ln' L n n' (.v .none) rest) : xr (gtCfg h) 60 (bodyW (bodyOf (gtFd w))) [] ⟨gtLoc (.v .none), lexE cm wc st' ln' L n' rest⟩ = some (.ret (.v .none), lexE cm wc st' ln' L n' rest, [Zq]) := by kernel_rfl
end
theorem gt_def (w : Wn) : defOk (WW w).K 693 ["self"] = true := by kernel_rfl
theorem gt_bind (w : Wn) (v : Value) : runPure (WW w).K 30 (bindArgs (gtFd w) ⟨[v], []⟩) = some ([("self", v)] : List (Str × Value)) := by kernel_rfl
theorem keep_gt (w : Wn) : keepOk (WW w).K (.ref 693) = true := by kernel_rfl
theorem zq_ok : Zq := by show 0 < _; decide
theorem spec_gtS {w : Wn} {cm wc : Str} {st st' : PV} {ln ln' : Int} {L : List Nat} {n n' : Nat} {t : Str} {rest : List PO} (h : RtIs w cm wc st st' ln ln' L n n' (.s t) rest) :
    Spec (WW w) 5 (.ref 693) [.o 0] (lexE cm wc st ln L n rest) (.s t) (lexE cm wc st' ln' L n' rest) := by
  refine SpecC.spec (spec_body (D := 4) (fl := .ret (.s t)) (loc := [("self", .o 0)]) (gt_def w) rfl (fun T ρ s vs B hT ia => ?_) fun c ok e room hs => ?_)
  · obtain ⟨v, rfl, i⟩ := isL1 ia
    exact ⟨_, gt_bind w v, rfl, .cons i .nil⟩
  · have gk := mkCfg_ok (t := tabs) (po := blt (WW w) 4) (eo := Orc.one (keep_rt w) h) ok e room (by decide) hs (tabs_ok w)
    exact while_stop ok gk (gt_split w) (gt_pre w cm wc st st' ln ln' L n n' _ rest h) ⟨zq_ok, rfl, trivial⟩ (gt_testS w cm wc st st' ln ln' L n n' rest t h) trivial rfl (gt_postS w cm wc st st' ln ln' L n n' rest t h) trivial
theorem spec_gtN {w : Wn} {cm wc : Str} {st st' : PV} {ln ln' : Int} {L : List Nat} {n n' : Nat} {rest : List PO} (h : RtIs w cm wc st st' ln ln' L n n' (.v .none) rest) :
    Spec (WW w) 5 (.ref 693) [.o 0] (lexE cm wc st ln L n rest) (.v .none) (lexE cm wc st' ln' L n' rest) := by
  refine SpecC.spec (spec_body (D := 4) (fl := .ret (.v .none)) (loc := [("self", .o 0)]) (gt_def w) rfl (fun T ρ s vs B hT ia => ?_) fun c ok e room hs => ?_)
  · obtain ⟨v, rfl, i⟩ := isL1 ia
    exact ⟨_, gt_bind w v, rfl, .cons i .nil⟩
  · have gk := mkCfg_ok (t := tabs) (po := blt (WW w) 4) (eo := Orc.one (keep_rt w) h) ok e room (by decide) hs (tabs_ok w)
    exact while_ret ok gk (gt_split w) (gt_pre w cm wc st st' ln ln' L n n' _ rest h) ⟨zq_ok, rfl, trivial⟩ (gt_testN w cm wc st st' ln ln' L n n' rest h) trivial rfl (gt_bodyN w cm wc st st' ln ln' L n n' rest h) ⟨zq_ok, trivial⟩
noncomputable abbrev nxFd (w : Wn) : FuncData := fdOf (WW w).K 729
theorem nx_def (w : Wn) : defOk (WW w).K 729 ["self"] = true := by kernel_rfl
theorem nx_bind (w : Wn) (v : Value) : runPure (WW w).K 30 (bindArgs (nxFd w) ⟨[v], []⟩) = some ([("self", v)] : List (Str × Value)) := by kernel_rfl
end oL2f
section oL2g
set_option backward.match.sparseCases false in
noncomputable def toksT (cm : List Nat) : Nat → List Nat → Option (List (List Nat))
  | 0, _ => none
  | k + 1, r => (rdT cm r .sp false []).bind fun o => if o.1 = true then some (if (!o.2.1 && o.2.2.1.isEmpty) = true then [] else [o.2.2.1]) else if (!o.2.1 && o.2.2.1.isEmpty) = true then none else (toksT cm k o.2.2.2).map (o.2.2.1 :: ·)
theorem toks_step {cm : List Nat} {k : Nat} {l : List Nat} {ts : List (List Nat)} (h : toksT cm k l = some ts) : ∃ eof q t rem, rdT cm l .sp false [] = some (eof, q, t, rem) ∧ ((eof = true ∧ ts = if (!q && t.isEmpty) = true then [] else [t]) ∨ (eof = false ∧ (!q && t.isEmpty) = false ∧ ∃ k ts', toksT cm k rem = some ts' ∧ ts = t :: ts')) := by
  cases k with
  | zero => exact no h
  | succ k =>
    obtain ⟨⟨eof, q, t, rem⟩, e, h⟩ := ob h
    refine ⟨eof, q, t, rem, e, ?_⟩
    cases eof with
    | true => exact .inl ⟨rfl, (Option.some.inj h).symm⟩
    | false =>
      have h : (if (!q && t.isEmpty) = true then none else (toksT cm k rem).map (t :: ·)) = some ts := h
      cases g : !q && t.isEmpty with
      | true => rw [g] at h; exact no h
      | false =>
        rw [g] at h
        obtain ⟨ts', e1, e2⟩ := Option.map_eq_some_iff.mp h
        exact .inr ⟨rfl, rfl, k, ts', e1, e2.symm⟩
theorem toks_end {cm : List Nat} {k : Nat} {l t rem : List Nat} {q : Bool} (e : rdT cm l .sp false [] = some (true, q, t, rem)) (g : (!q && t.isEmpty) = false) : toksT cm (k + 1) l = some [t] := by
  show (rdT cm l .sp false []).bind _ = _
  rw [e]
  show some (if (!q && t.isEmpty) = true then [] else [t]) = _
  rw [g]; rfl
theorem toks_more {cm : List Nat} {k : Nat} {l t rem : List Nat} {ts : List (List Nat)} {q : Bool} (e : rdT cm l .sp false [] = some (false, q, t, rem)) (g : (!q && t.isEmpty) = false) (h : toksT cm k rem = some ts) : toksT cm (k + 1) l = some (t :: ts) := by
  show (rdT cm l .sp false []).bind _ = _
  rw [e]
  show (if (!q && t.isEmpty) = true then none else (toksT cm k rem).map (t :: ·)) = _
  rw [g, h]; rfl
theorem it_def (w : Wn) : defOk (WW w).K 722 ["self"] = true := by kernel_rfl
theorem it_bind (w : Wn) (v : Value) : runPure (WW w).K 30 (bindArgs (fdOf (WW w).K 722) ⟨[v], []⟩) = some ([("self", v)] : List (Str × Value)) := by kernel_rfl
theorem it_run (w : Wn) (objs : List PO) : xr (mkCfg (W := WW w) (D := 1) (fdOf (WW w).K 722).scope tabs (blt _ _) (.none _ _)) 60 (bodyOf (fdOf (WW w).K 722)) [] ⟨[("self", .o 0)], objs⟩ = some (.ret (.o 0), objs, []) := by kernel_rfl
theorem spec_it (w : Wn) (objs : List PO) : Spec (WW w) 2 (.ref 722) [.o 0] objs (.o 0) objs :=
  SpecC.spec <| spec_run (by decide) (it_def w) (tabs_ok w) rfl (fun T ρ s vs B hT ia => by obtain ⟨v, rfl, i⟩ := isL1 ia; exact ⟨_, it_bind w v, rfl, .cons i .nil⟩) (it_run w objs) trivial
theorem lex_own (w : Wn) : ownIter (WW w).K 732 722 729 = true := by kernel_rfl
end oL2g
section A1
noncomputable abbrev lexQ (cm wc : Str) (st : PV) (ln : Int) (L : List Nat) (n : Nat) (pb : List PV) (rest : List PO) : List PO := lexS cm wc st ln "" L n (.dq pb :: .dq [] :: rest)
theorem gp_run (w : Wn) (cm wc : Str) (st : PV) (ln : Int) (L : List Nat) (n : Nat) (t : Str) (pb : List PV) (rest : List PO) : xr (mkCfg (W := WW w) (D := 1) (gtFd w).scope tabs (blt _ _) (.none _ _)) 60 (bodyOf (gtFd w)) [] ⟨[("self", .o 0)], lexQ cm wc st ln L n (.s t :: pb) rest⟩ =
  some (.ret (.s t), lexQ cm wc st ln L n pb rest, [List.length (PV.s t :: pb) < 2 ^ 62, Ln (PV.s t :: pb)]) := by kernel_rfl
noncomputable abbrev ptFd (w : Wn) : FuncData := fdOf (WW w).K 671
theorem pk_run (w : Wn) (cm wc : Str) (st : PV) (ln : Int) (L : List Nat) (n : Nat) (t : Str) (pb : List PV) (rest : List PO) : xr (mkCfg (W := WW w) (D := 1) (ptFd w).scope tabs (blt _ _) (.none _ _)) 60 (bodyOf (ptFd w)) [] ⟨[("self", .o 0), ("tok", .s t)], lexQ cm wc st ln L n pb rest⟩ =
  some (.next, lexQ cm wc st ln L n (.s t :: pb) rest, [Ln pb]) := by kernel_rfl
theorem spec_gp {w : Wn} {cm wc : Str} {st : PV} {ln : Int} {L : List Nat} {n : Nat} {t : Str} {pb : List PV} {rest : List PO} (hp : pb.length < 1000000) : Spec (WW w) 2 (.ref 693) [.o 0] (lexQ cm wc st ln L n (.s t :: pb) rest) (.s t) (lexQ cm wc st ln L n pb rest) :=
  SpecC.spec <| spec_run (by decide) (gt_def w) (tabs_ok w) rfl (fun T ρ s vs B hT ia => by obtain ⟨v, rfl, i⟩ := isL1 ia; exact ⟨_, gt_bind w v, rfl, .cons i .nil⟩) (gp_run w cm wc st ln L n t pb rest) ⟨by rw [List.length_cons]; omega, hp, trivial⟩
theorem pk_def (w : Wn) : defOk (WW w).K 671 ["self", "tok"] = true := by kernel_rfl
theorem pk_bind (w : Wn) (v u : Value) : runPure (WW w).K 30 (bindArgs (ptFd w) ⟨[v, u], []⟩) = some ([("self", v), ("tok", u)] : List (Str × Value)) := by kernel_rfl
theorem keep_pk (w : Wn) : keepOk (WW w).K (.ref 671) = true := by kernel_rfl
theorem spec_pk {w : Wn} {cm wc : Str} {st : PV} {ln : Int} {L : List Nat} {n : Nat} {t : Str} {pb : List PV} {rest : List PO} (hp : pb.length ≤ 1000000) : Spec (WW w) 2 (.ref 671) [.o 0, .s t] (lexQ cm wc st ln L n pb rest) (.v .none) (lexQ cm wc st ln L n (.s t :: pb) rest) :=
  SpecC.spec <| spec_run (by decide) (pk_def w) (tabs_ok w) rfl (fun T ρ s vs B hT ia => by obtain ⟨v, u, rfl, i, j⟩ := isL2 ia; exact ⟨_, pk_bind w v u, rfl, .cons i (.cons j .nil)⟩) (pk_run w cm wc st ln L n t pb rest) ⟨hp, trivial⟩
noncomputable abbrev sT (ts : List (List Nat)) : List PV := ts.map fun t => .s (tx t)
noncomputable def AtS (cm : Str) (L : List Nat) (st : PV) (n : Nat) (ts : List (List Nat)) : Prop := (st = .s " " ∧ n ≤ L.length ∧ ∃ k, toksT cm.cps.toList k (L.drop n) = some ts) ∨ (st = .v .none ∧ n = L.length ∧ ts = [])
noncomputable def LexAt (cm wc : Str) (L : List Nat) (rest : List PO) (b : Nat) (objs : List PO) (ts : List (List Nat)) : Prop :=
  ∃ st ln n pb ts', objs = lexQ cm wc st ln L n (sT pb) rest ∧ ts = pb ++ ts' ∧ pb.length ≤ b ∧ AtS cm L st n ts'
set_option backward.match.sparseCases false in
noncomputable def hdP : List (List Nat) → PV
  | [] => .v .none
  | t :: _ => .s (tx t)
section
variable {w : Wn} {cm wc : Str} {L : List Nat} {rest objs : List PO} {b : Nat} {ts r : List (List Nat)} {t : List Nat}
theorem la_read {st : PV} {ln : Int} {n : Nat} (hz : L.length ≤ sizeLine) (hcm : (39 ∉ cm.cps.toList) ∧ (34 ∉ cm.cps.toList)) (hwc : 39 ∉ wc.cps.toList) (h : AtS cm L st n ts) : ∃ st' ln' n', Spec (WW w) 5 (.ref 693) [.o 0] (lexQ cm wc st ln L n [] rest) (hdP ts) (lexQ cm wc st' ln' L n' [] rest) ∧ AtS cm L st' n' ts.tail := by
  rcases h with ⟨rfl, hn, k, hk⟩ | ⟨rfl, rfl, rfl⟩
  · obtain ⟨eof, q, t, rem, hr, hc⟩ := toks_step hk
    obtain ⟨ln', n', h1, h2, sp⟩ := spec_rt (w := w) (wc := wc) (ln := ln) (rest := .dq [] :: .dq [] :: rest) hz hcm hwc hn hr
    unfold tokP at sp
    rcases hc with ⟨rfl, rfl⟩ | ⟨rfl, g, k2, ts', hk2, rfl⟩
    · have e1 : rem = [] := rd_len _ _ _ _ hr
      subst e1
      have en : n' = L.length := Nat.le_antisymm h2 (List.drop_eq_nil_iff.mp h1)
      cases g : !q && t.isEmpty with
      | true => rw [g] at sp; exact ⟨_, ln', n', spec_gtN sp, .inr ⟨rfl, en, rfl⟩⟩
      | false => rw [g] at sp; exact ⟨_, ln', n', spec_gtS sp, .inr ⟨rfl, en, rfl⟩⟩
    · rw [g] at sp
      exact ⟨_, ln', n', spec_gtS sp, .inl ⟨rfl, h2, k2, by rw [h1]; exact hk2⟩⟩
  · exact ⟨_, _, _, spec_gtN (spec_rtN hz), .inr ⟨rfl, rfl, rfl⟩⟩
theorem la_get (hz : L.length ≤ sizeLine) (hcm : (39 ∉ cm.cps.toList) ∧ (34 ∉ cm.cps.toList)) (hwc : 39 ∉ wc.cps.toList) (hb : b ≤ 1000000) (h : LexAt cm wc L rest b objs (t :: r)) : ∃ objs', Spec (WW w) 5 (.ref 693) [.o 0] objs (.s (tx t)) objs' ∧ LexAt cm wc L rest b objs' r := by
  obtain ⟨st, ln, n, pb, ts', rfl, e, hp, hs⟩ := h
  cases pb with
  | cons t' pb =>
    cases e
    exact ⟨_, (spec_gp (by rw [List.length_map]; exact Nat.lt_of_lt_of_le hp hb)).le (by decide), st, ln, n, pb, ts', rfl, rfl, Nat.le_of_succ_le hp, hs⟩
  | nil =>
    obtain ⟨st', ln', n', sp, h'⟩ := la_read (w := w) (wc := wc) (ln := ln) (rest := rest) hz hcm hwc hs
    rw [← (show t :: r = ts' from e)] at sp h'
    exact ⟨_, sp, st', ln', n', [], r, rfl, rfl, Nat.zero_le _, h'⟩
theorem la_get0 (hz : L.length ≤ sizeLine) (hcm : (39 ∉ cm.cps.toList) ∧ (34 ∉ cm.cps.toList)) (hwc : 39 ∉ wc.cps.toList) (h : LexAt cm wc L rest b objs []) : ∃ objs', Spec (WW w) 5 (.ref 693) [.o 0] objs (.v .none) objs' ∧ LexAt cm wc L rest b objs' [] := by
  obtain ⟨st, ln, n, pb, ts', rfl, e, hp, hs⟩ := h
  obtain ⟨rfl, rfl⟩ := List.append_eq_nil_iff.mp e.symm
  obtain ⟨st', ln', n', sp, h'⟩ := la_read (w := w) (wc := wc) (ln := ln) (rest := rest) hz hcm hwc hs
  exact ⟨_, sp, st', ln', n', [], [], rfl, rfl, Nat.zero_le _, h'⟩
end
end A1
section A2
section
variable {w : Wn} {cm wc : Str} {st st' : PV} {ln ln' : Int} {L : List Nat} {n n' : Nat} {pb pb' : List PV} {rest : List PO}
noncomputable abbrev GqIs (w : Wn) (cm wc : Str) (st st' : PV) (ln ln' : Int) (L : List Nat) (n n' : Nat) (pb pb' : List PV) (r : PV) (rest : List PO) : Prop := Spec (WW w) 5 (.ref 693) [.o 0] (lexQ cm wc st ln L n pb rest) r (lexQ cm wc st' ln' L n' pb' rest)
noncomputable abbrev nqCfg {r : PV} (h : GqIs w cm wc st st' ln ln' L n n' pb pb' r rest) : Cfg := mkCfg (nxFd w).scope tabs (blt _ _) (Orc.one (keep_gt w) h)
theorem nq_runS (t : Str) (h : GqIs w cm wc st st' ln ln' L n n' pb pb' (.s t) rest) : xr (nqCfg h) 60 (bodyOf (nxFd w)) [] ⟨[("self", .o 0)], lexQ cm wc st ln L n pb rest⟩ = some (.ret (.s t), lexQ cm wc st' ln' L n' pb' rest, [Rf ([PV.o 0], lexQ cm wc st ln L n pb rest)]) := by kernel_rfl
theorem nq_runN (h : GqIs w cm wc st st' ln ln' L n n' pb pb' (.v .none) rest) : xxo (nqCfg h) 60 (bodyOf (nxFd w)) [] ⟨[("self", .o 0)], lexQ cm wc st ln L n pb rest⟩ = some (lexQ cm wc st' ln' L n' pb' rest, [Rf ([PV.o 0], lexQ cm wc st ln L n pb rest)]) := by kernel_rfl
theorem spec_nqS {t : Str} (h : GqIs w cm wc st st' ln ln' L n n' pb pb' (.s t) rest) : Spec (WW w) 6 (.ref 729) [.o 0] (lexQ cm wc st ln L n pb rest) (.s t) (lexQ cm wc st' ln' L n' pb' rest) :=
  SpecC.spec <| spec_run (by decide) (nx_def w) (tabs_ok w) rfl (fun T ρ s vs B hT ia => by obtain ⟨v, rfl, i⟩ := isL1 ia; exact ⟨_, nx_bind w v, rfl, .cons i .nil⟩) (nq_runS t h) ⟨rfl, trivial⟩
theorem spec_nqN (h : GqIs w cm wc st st' ln ln' L n n' pb pb' (.v .none) rest) : SpecX (WW w) 6 (.ref 729) [.o 0] (lexQ cm wc st ln L n pb rest) (lexQ cm wc st' ln' L n' pb' rest) :=
  spec_runX (by decide) (nx_def w) (tabs_ok w) rfl (fun T ρ s vs B hT ia => by obtain ⟨v, rfl, i⟩ := isL1 ia; exact ⟨_, nx_bind w v, rfl, .cons i .nil⟩) (nq_runN h) ⟨rfl, trivial⟩
end
section
variable {w : Wn} {cm wc : Str} {L : List Nat} {rest : List PO} {b : Nat}
theorem LexAt.inst {objs : List PO} {ts : List (List Nat)} (h : LexAt cm wc L rest b objs ts) : instC objs 0 732 := by
  obtain ⟨st, ln, n, pb, ts', rfl, _⟩ := h
  exact ⟨_, rfl⟩
theorem la_toks (hz : L.length ≤ sizeLine) (hcm : (39 ∉ cm.cps.toList) ∧ (34 ∉ cm.cps.toList)) (hwc : 39 ∉ wc.cps.toList) (hb : b ≤ 1000000) : ∀ (ts : List (List Nat)) (objs : List PO), LexAt cm wc L rest b objs ts → ∃ objs', ToksC (WW w) 6 (.ref 729) 0 732 objs (sT ts) objs' ∧ LexAt cm wc L rest b objs' []
  | [], objs, h => by
    obtain ⟨objs', sp, h'⟩ := la_get0 (w := w) hz hcm hwc h
    have hi := h.inst
    obtain ⟨st, ln, n, pb, ts, rfl, _⟩ := h
    have h2 := h'
    obtain ⟨st', ln', n', pb', ts', rfl, _⟩ := h2
    exact ⟨_, .stop hi (spec_nqN sp), h'⟩
  | t :: ts, objs, h => by
    obtain ⟨objs', sp, h'⟩ := la_get (w := w) hz hcm hwc hb h
    have hi := h.inst
    obtain ⟨objs2, tk, h2⟩ := la_toks hz hcm hwc hb ts objs' h'
    obtain ⟨st, ln, n, pb, ts0, rfl, _⟩ := h
    obtain ⟨st', ln', n', pb', ts', rfl, _⟩ := h'
    exact ⟨_, .step hi (spec_nqS sp) tk, h2⟩
end
theorem la_list {w : Wn} {cm wc : Str} {L : List Nat} {rest objs : List PO} {b : Nat} {ts : List (List Nat)} (hz : L.length ≤ 1000000) (hcm : (39 ∉ cm.cps.toList) ∧ (34 ∉ cm.cps.toList)) (hwc : 39 ∉ wc.cps.toList) (hb : b ≤ 1000000) (h : LexAt cm wc L rest b objs ts) (hl : ts.length ≤ 1000000) :
    ∃ objs', Spec (WW w) 7 (.type "list") [.o 0] objs (.l (sT ts)) objs' ∧ LexAt cm wc L rest b objs' [] := by
  obtain ⟨objs', tk, h'⟩ := la_toks (w := w) (Nat.le_trans hz sizeM) hcm hwc hb ts objs h
  exact ⟨objs', list_own (by rw [List.length_map]; exact hl) (lex_own w) ((spec_it w _).le (by decide)) tk h.inst, h'⟩
end A2
section oL2h
theorem sio_own (w : Wn) : MadeOwn (WW w).K 597 90 367 where
  mro := ⟨[.ref 597, .ref 120, .ref 93, .type "object"], by kernel_rfl, rfl⟩
  made := by kernel_rfl
  call := by kernel_rfl
  typ := by kernel_rfl
  reads := by kernel_rfl
  new := ⟨94, ((recIn (WW w).K 94 "staticmethod").getD []).tail, by kernel_rfl, by kernel_rfl⟩
  sub := by kernel_rfl
  init := by kernel_rfl
  fn := by kernel_rfl
noncomputable abbrev nwFd (w : Wn) : FuncData := fdOf (WW w).K 90
theorem nw_bind (w : Wn) (v : Value) (S : Setting) (sz tk : Nat) : (runAl (WW w).K S 200 sz tk (bindArgs (nwFd w) ⟨[.ref 597, v], []⟩)).map (·.1) = some ([("cls", .ref 597), ("args", .ref sz), ("kwargs", .ref (sz + 1))] : List (Str × Value)) := by kernel_rfl
theorem nw_names (w : Wn) : (["cls", "args", "kwargs"] : List Str).all (fun x => (nwFd w).scope.names.lookup x == some .local) = true := by kernel_rfl
theorem nw_def (w : Wn) : (isDef (WW w).K 90 (nwFd w) && hasBody (nwFd w)) = true := by kernel_rfl
theorem sio_new (w : Wn) : ObjNew (WW w).K 597 := ⟨fun S sz tk => by kernel_rfl, fun S sz tk => by kernel_rfl⟩
structure NwX where
  y : Str
  py : Pos
  n : Str
  apos : Pos
  x : Str
  px : Pos
  pos : Pos
  pr : Pos
noncomputable def NwX.ex (r : NwX) : Expr := .Call (.Attribute (.Name r.y r.py) r.n r.apos) [.Name r.x r.px] [] r.pos
set_option backward.match.sparseCases false in
noncomputable def nwX : Stmt → Option NwX
  | .Return (some (.Call (.Attribute (.Name y py) n apos) [.Name x px] _ pos)) pr => some ⟨y, py, n, apos, x, px, pos, pr⟩
  | _ => none
theorem nw_some (w : Wn) : (((bodyOf (nwFd w)).drop 1).head?.bind nwX).isSome = true := by kernel_rfl
noncomputable def nwG (w : Wn) : NwX := (((bodyOf (nwFd w)).drop 1).head?.bind nwX).get (nw_some w)
theorem nw_shape (w : Wn) : (bodyOf (nwFd w)).drop 1 = [.Return (some (nwG w).ex) (nwG w).pr] := by kernel_rfl
theorem nw_good (w : Wn) : ((nwG w).y == ("object" : Str) && ((nwG w).n == ("__new__" : Str)) && ((nwG w).x == ("cls" : Str)) && ((nwG w).apos.endLine == (nwG w).pos.line)) = true := by kernel_rfl
theorem nw_kinds (w : Wn) : (nwFd w).scope.names.lookup ("object" : Str) = some NameKind.globalImplicit ∧ (nwFd w).scope.names.lookup ("cls" : Str) = some NameKind.local := ⟨by kernel_rfl, by kernel_rfl⟩
theorem nw_if (w : Wn) (objs : List PO) : xs (mkCfg (W := WW w) (D := 1) (nwFd w).scope tabs (blt _ _) (.none _ _)) 60 ((bodyOf (nwFd w)).take 1) [] ⟨[("cls", .v (.ref 597))], objs⟩ = some (.next, [], ⟨[("cls", .v (.ref 597))], objs⟩, []) := by kernel_rfl
end oL2h
section oL2i
theorem nw_obj (w : Wn) : findCls (WW w).K (.type "object") (.type "type") "__new__" = some (.val (.builtin "object.__new__")) := by kernel_rfl
theorem glob_object (w : Wn) : globIs (WW w).K "object" (.type "object") = true := by kernel_rfl
theorem nw_end {w : Wn} {c : Fc} {g : Cfg} {objs : List PO} {b : List Stmt} (r : NwX) (ok : c.Ok) (e : c.toWd = WW w) (gk : CfgOk c g) (hg : (r.y == ("object" : Str) && (r.n == ("__new__" : Str)) && (r.x == ("cls" : Str)) && (r.apos.endLine == r.pos.line)) = true) (k1 : c.env.kindOf ("object" : Str) = some .globalImplicit) (k2 : c.env.kindOf ("cls" : Str) = some .local) (hb : b.drop 1 = [.Return (some r.ex) r.pr])
    (hi : xs g 60 (b.take 1) [] ⟨[("cls", .v (.ref 597))], objs⟩ = some (.next, [], ⟨[("cls", .v (.ref 597))], objs⟩, [])) : ExG c b ⟨[("cls", .v (.ref 597))], objs⟩ (.ret (.o objs.length)) ⟨[("cls", .v (.ref 597))], objs ++ [.inst 597 []]⟩ := by
  obtain ⟨y, py, n, apos, x, px, pos, pr⟩ := r
  simp only [Bool.and_eq_true, beq_iff_eq] at hg
  obtain ⟨⟨⟨rfl, rfl⟩, rfl⟩, hl⟩ := hg
  have hK : c.K = (WW w).K := congrArg Wd.K e
  rw [← List.take_append_drop 1 b, hb]
  refine xg_app ok gk hi trivial rfl (exg_one (sxg_return ?_))
  exact evg_objnew ok k1 (show (("object" : Str) == ("__debug__" : Str)) = false by decide) (by rw [hK]; exact glob_object w) (by rw [hK]; exact nw_obj w) k2 (show (("cls" : Str) == ("__debug__" : Str)) = false by decide) rfl (by rw [hK]; exact sio_new w) (by simpa using hl)
theorem spec_new (w : Wn) (v : PV) (objs : List PO) : SpecK (WW w) 2 (.ref 90) [.v (.ref 597), v] [] objs (.o objs.length) (objs ++ [.inst 597 []]) := by
  refine call_defB (D := 1) (fl := .ret (.o objs.length)) (loc := [("cls", .v (.ref 597))]) (defIs_of (nw_def w)) (fun T ρ s vs kvs B hT ia ek ik => ?_) fun c ok e room hs => ?_
  · obtain ⟨a, b, rfl, i, j⟩ := isL2 ia
    cases i
    cases kvs with
    | cons _ _ => cases ek
    | nil =>
    refine bind_al B.k (nw_bind w b _ _ _) (nw_names w) (fun x p h => ?_)
    refine ⟨.ref 597, ?_, ?_⟩
    · by_cases g : x = ("cls" : Str)
      · subst g; rfl
      · have : (x == ("cls" : Str)) = false := by simpa using g
        rw [List.lookup_cons, this] at h; cases h
    · by_cases g : x = ("cls" : Str)
      · subst g; cases h; exact .v _
      · have : (x == ("cls" : Str)) = false := by simpa using g
        rw [List.lookup_cons, this] at h; cases h
  · have gk := mkCfg_ok (t := tabs) (po := blt (WW w) 1) (eo := .none _ _) ok e room (by decide) hs (tabs_ok w)
    refine ⟨⟨[("cls", .v (.ref 597))], objs ++ [.inst 597 []]⟩, ?_, rfl⟩
    exact nw_end (nwG w) ok e gk (nw_good w) (by unfold Env.kindOf; rw [hs]; exact (nw_kinds w).1) (by unfold Env.kindOf; rw [hs]; exact (nw_kinds w).2) (nw_shape w) (nw_if w objs)
end oL2i
section oL2j
noncomputable abbrev siFd (w : Wn) : FuncData := fdOf (WW w).K 367
noncomputable abbrev trFd (w : Wn) : FuncData := fdOf (WW w).K 374
noncomputable abbrev sioP (buf : Str) : PO := .inst 597 [("_StringIO__newline", .s "\n"), ("_StringIO__buf", .s buf), ("_StringIO__pos", .i 0)]
theorem tr_def (w : Wn) : defOk (WW w).K 374 ["self", "s"] = true := by kernel_rfl
theorem tr_bind (w : Wn) (v u : Value) : runPure (WW w).K 30 (bindArgs (trFd w) ⟨[v, u], []⟩) = some ([("self", v), ("s", u)] : List (Str × Value)) := by kernel_rfl
theorem tr_run (w : Wn) (x : PO) (t : Str) : xr (mkCfg (W := WW w) (D := 1) (trFd w).scope tabs (blt _ _) (.none _ _)) 60 (bodyOf (trFd w)) [] ⟨[("self", .o 1), ("s", .s t)], [x, sioP ""]⟩ = some (.ret (.s t), [x, sioP ""], []) := by kernel_rfl
theorem spec_tr (w : Wn) (x : PO) (t : Str) : Spec (WW w) 2 (.ref 374) [.o 1, .s t] [x, sioP ""] (.s t) [x, sioP ""] :=
  SpecC.spec <| spec_run (by decide) (tr_def w) (tabs_ok w) rfl (fun T ρ s vs B hT ia => by obtain ⟨v, u, rfl, i, j⟩ := isL2 ia; exact ⟨_, tr_bind w v u, rfl, .cons i (.cons j .nil)⟩) (tr_run w x t) trivial
theorem keep_tr (w : Wn) : keepOk (WW w).K (.ref 374) = true := by kernel_rfl
noncomputable abbrev siPo (w : Wn) (x : PO) (t : Str) : POrc (WW w) 2 := (blt _ _).or (POrc.one (keep_tr w) (spec_tr w x t))
theorem si_def (w : Wn) : (isDef (WW w).K 367 (siFd w) && hasBody (siFd w)) = true := by kernel_rfl
theorem si_bind (w : Wn) (v u : Value) (S : Setting) (sz tk : Nat) : (runAl (WW w).K S 200 sz tk (bindArgs (siFd w) ⟨[v, u], []⟩)).map (·.1) = some ([("self", v), ("initial_value", u), ("newline", .str "\n" 756)] : List (Str × Value)) := by kernel_rfl
theorem si_names (w : Wn) : (["self", "initial_value", "newline"] : List Str).all (fun x => (siFd w).scope.names.lookup x == some .local) = true := by kernel_rfl
theorem si_run (w : Wn) (x : PO) (t : Str) : xr (mkCfg (W := WW w) (siFd w).scope tabs (siPo w x t) (.none _ _)) 60 (bodyOf (siFd w)) [] ⟨[("self", .o 1), ("initial_value", .s t), ("newline", .s "\n")], [x, .inst 597 []]⟩ = some (.next, [x, sioP t], [Rf ([PV.o 1, PV.s t], [x, sioP ""])]) := by kernel_rfl
theorem spec_si (w : Wn) (x : PO) (t : Str) : SpecK (WW w) 3 (.ref 367) [.o 1, .s t] [] [x, .inst 597 []] (.v .none) [x, sioP t] := by
  refine call_defB (D := 2) (fl := .next) (loc := [("self", .o 1), ("initial_value", .s t), ("newline", .s "\n")]) (defIs_of (si_def w)) (fun T ρ s vs kvs B hT ia ek ik => ?_) fun c ok e room hs => ?_
  · obtain ⟨a, b, rfl, i, j⟩ := isL2 ia
    cases kvs with
    | cons _ _ => cases ek
    | nil =>
    refine bind_al B.k (si_bind w a b _ _ _) (si_names w) (loc_binds rfl (.cons i (.cons j (.cons (.s _ _) .nil))) (nodupB_ok (l := ["self", "initial_value", "newline"]) (by decide)))
  · have gk := mkCfg_ok (t := tabs) (po := siPo w x t) (eo := .none _ _) ok e room (by decide) hs (tabs_ok w)
    obtain ⟨ds', V', run, ho⟩ := xr_ok (si_run w x t)
    exact ⟨V', ((sx_sound ok gk 60).2 _ _ _ _ _ _ _ run ⟨rfl, trivial⟩).g ok (by rw [ho]; rfl), ho⟩
theorem spec_sio (w : Wn) (x : PO) (t : Str) : SpecK (WW w) 4 (.ref 597) [.s t] [] [x] (.o 1) [x, sioP t] :=
  spec_class (sio_own w) (SpecK.le (spec_new w (.s t) [x]) (by decide)) ⟨_, rfl⟩ (spec_si w x t)
end oL2j
section oL2k
noncomputable abbrev liFd (w : Wn) : FuncData := fdOf (WW w).K 656
theorem li_def (w : Wn) : (isDef (WW w).K 656 (liFd w) && hasBody (liFd w)) = true := by kernel_rfl
noncomputable def liBinds (a b : Value) : List (Str × Value) := [("self", a), ("instream", b), ("infile", .none), ("posix", .bool true), ("punctuation_chars", .bool false)]
theorem li_bind2 (w : Wn) (a b : Value) (S : Setting) (sz tk : Nat) : (runAl (WW w).K S 200 sz tk (bindArgs (liFd w) ⟨[a, b], [("posix", .bool true)]⟩)).map (·.1) = some (liBinds a b) := by kernel_rfl
theorem li_names (w : Wn) : (["self", "instream", "infile", "posix", "punctuation_chars"] : List Str).all (fun x => (liFd w).scope.names.lookup x == some .local) = true := by kernel_rfl
theorem keep_sio (w : Wn) : keepOk (WW w).K (.ref 597) = true := by kernel_rfl
noncomputable abbrev liGo (w : Wn) (t : Str) : GOrc (WW w) 4 := GOrc.one (keep_sio w) (spec_sio w (.inst 732 []) t)
noncomputable def wcS : Str := Str.ofString "abcdfeghijklmnopqrstuvwxyzABCDEFGHIJKLMNOPQRSTUVWXYZ0123456789_" ++ Str.ofString "ßàáâãäåæçèéêëìíîïðñòóôõöøùúûüýþÿÀÁÂÃÄÅÆÇÈÉÊËÌÍÎÏÐÑÒÓÔÕÖØÙÚÛÜÝÞ"
noncomputable def lexN : PO := .inst 732 [("instream", .o 1), ("infile", .v .none), ("posix", .v (.bool true)), ("eof", .v .none), ("commenters", .s "#"), ("wordchars", .s wcS), ("whitespace", .s " \t\r\n"), ("whitespace_split", .v (.bool false)), ("quotes", .s "'\""), ("escape", .s "\\"), ("escapedquotes", .s "\""), ("state", .s " "), ("pushback", .o 2), ("lineno", .i 1), ("debug", .i 0), ("token", .s ""), ("filestack", .o 3), ("source", .v .none), ("_punctuation_chars", .s "")]
noncomputable def liLoc (t : Str) : List (Str × PV) := [("self", .o 0), ("instream", .s t), ("infile", .v .none), ("posix", .v (.bool true)), ("punctuation_chars", .v (.bool false))]
theorem li_run (w : Wn) (t : Str) : gxr (mkCfg (W := WW w) (D := 4) (liFd w).scope tabs (blt _ _) (.none _ _)) (liGo w t).fn 60 (bodyOf (liFd w)) [] ⟨liLoc t, [.inst 732 []]⟩ =
  some (.next, [lexN, sioP t, .dq [], .dq []], [Rf ([PV.s t], ([] : List (Str × PV)), [PO.inst 732 []]), 2 = 2, 2 = 2, 2 = 2, 2 = 2, 2 = 2, wcS.length ≤ sizeLine, 2 = 2, 2 = 2, 2 = 2, 2 = 2, 2 = 2, 2 = 2, 2 = 2, 3 = 3, 3 = 3, 3 = 3, 4 = 4, 4 = 4, 4 = 4, Str.length "" ≤ sizeLine, 4 = 4]) := by kernel_rfl
theorem kw_one {T : List Addr} {ρ : List (Addr × Addr)} {h : Heap} {kvs : List (Str × Value)} {x : Str} {p : PV} (ek : kvs.map (·.1) = [x]) (ik : IsL T ρ h [p] (kvs.map (·.2))) : ∃ u, kvs = [(x, u)] ∧ Is T ρ h p u := by
  cases kvs with
  | nil => cases ek
  | cons z r =>
    obtain ⟨e1, e2⟩ := List.cons.inj ek
    cases r with
    | cons _ _ => cases e2
    | nil =>
      cases ik with | cons a b =>
      exact ⟨z.2, by rw [← e1], a⟩
theorem wcS_len : wcS.length ≤ sizeLine := by decide +kernel
theorem spec_li (w : Wn) (t : Str) : SpecK (WW w) 5 (.ref 656) [.o 0, .s t] [("posix", .v (.bool true))] [.inst 732 []] (.v .none) [lexN, sioP t, .dq [], .dq []] := by
  refine spec_runG (by decide) (fl := .next) (li_def w) (tabs_ok w) (fun T ρ s vs kvs B hT ia ek ik => ?_) (li_run w t) (by simp only [AllP, true_and, and_true]; exact ⟨wcS_len, by decide +kernel⟩)
  obtain ⟨a, b, rfl, i, j⟩ := isL2 ia
  obtain ⟨u, rfl, iu⟩ := kw_one ek ik
  cases iu.iv
  exact bind_al B.k (li_bind2 w a b _ _ _) (li_names w) (loc_binds rfl (.cons i (.cons j (.cons (.v _) (.cons (.v _) (.cons (.v _) .nil))))) (nodupB_ok (l := ["self", "instream", "infile", "posix", "punctuation_chars"]) (by decide)))
theorem lex_makes (w : Wn) : makesIn (WW w).K 732 = true := by kernel_rfl
theorem lex_init (w : Wn) : findIn (WW w).K (.ref 732) "__init__" = some (some (.ref 656)) := by kernel_rfl
theorem lex_fn (w : Wn) : isFn (WW w).K (.ref 656) = true := by kernel_rfl
theorem spec_lex (w : Wn) (t : Str) : SpecK (WW w) 6 (.ref 732) [.s t] [("posix", .v (.bool true))] [] (.o 0) [lexN, sioP t, .dq [], .dq []] :=
  spec_class0 (objs := []) (lex_makes w) (lex_init w) (lex_fn w) (spec_li w t)
end oL2k
section oL2l
noncomputable abbrev spFd (w : Wn) : FuncData := fdOf (WW w).K 744
theorem sp_def (w : Wn) : (isDef (WW w).K 744 (spFd w) && hasBody (spFd w)) = true := by kernel_rfl
theorem sp_bind (w : Wn) (a : Value) (S : Setting) (sz tk : Nat) : (runAl (WW w).K S 200 sz tk (bindArgs (spFd w) ⟨[a], []⟩)).map (·.1) = some ([("s", a), ("comments", .bool false), ("posix", .bool true)] : List (Str × Value)) := by kernel_rfl
theorem sp_names (w : Wn) : (["s", "comments", "posix"] : List Str).all (fun x => (spFd w).scope.names.lookup x == some .local) = true := by kernel_rfl
theorem keep_lex (w : Wn) : keepOk (WW w).K (.ref 732) = true := by kernel_rfl
noncomputable abbrev spGo (w : Wn) (t : Str) : GOrc (WW w) 7 := GOrc.one (keep_lex w) ((spec_lex w t).le (by decide))
noncomputable abbrev lexR (L : List Nat) (n : Nat) (st : PV) (ln : Int) : List PO := lexE "" wcS st ln L n []
noncomputable abbrev LsIs (w : Wn) (L : List Nat) (ts : PV) (n' : Nat) (st' : PV) (ln' : Int) : Prop := Spec (WW w) 7 (.type "list") [.o 0] (lexR L 0 (.s " ") 1) ts (lexR L n' st' ln')
noncomputable abbrev spCfg {w : Wn} {L : List Nat} {ts : PV} {n' : Nat} {st' : PV} {ln' : Int} (h : LsIs w L ts n' st' ln') : Cfg := mkCfg (spFd w).scope tabs (blt _ _) (Orc.one rfl h)
theorem sp_run (w : Wn) (L : List Nat) (ts : PV) (n' : Nat) (st' : PV) (ln' : Int) (h : LsIs w L ts n' st' ln') : gxr (spCfg h) (spGo w (tx L)).fn 60 (bodyOf (spFd w)) [] ⟨[("s", .s (tx L)), ("comments", .v (.bool false)), ("posix", .v (.bool true))], []⟩ =
  some (.ret ts, lexR L n' st' ln', [0 = 0, Rf ([PV.s (tx L)], ([("posix", .v (.bool true))] : List (Str × PV)), ([] : List PO)), 4 = 4, 4 = 4, Rf ([PV.o 0], lexR L 0 (.s " ") 1), 4 = 4]) := by kernel_rfl
theorem ltL_strs {α : Type} {f : α → Str} : ∀ ts : List α, PV.ltL 0 (ts.map fun t => .s (f t)) = true
  | [] => rfl
  | t :: r => by show (true && PV.ltL 0 (r.map fun t => .s (f t))) = true; rw [ltL_strs r]; rfl
theorem wcS_39 : 39 ∉ wcS.cps.toList := by decide +kernel
theorem spec_split {w : Wn} {L : List Nat} {ts : List (List Nat)} {k : Nat} (h : toksT [] k L = some ts) (hz : L.length ≤ 1000000) (hl : ts.length ≤ 1000000) : SpecP (WW w) 8 (.ref 744) [.s (tx L)] (.l (ts.map fun t => .s (tx t))) := by
  obtain ⟨objs', sl, st', ln', n', pb, ts', rfl, e, _⟩ := la_list (w := w) (cm := "") (wc := wcS) (rest := []) (b := 0) hz (by decide) wcS_39 (Nat.zero_le _) ⟨.s " ", 1, 0, [], ts, rfl, rfl, Nat.le_refl _, .inl ⟨rfl, Nat.zero_le _, k, show toksT (Str.ofString "").cps.toList k L = some ts from h⟩⟩ hl
  obtain ⟨rfl, rfl⟩ := List.append_eq_nil_iff.mp e.symm
  refine spec_pure (spec_runG (by decide) (sp_def w) (tabs_ok w) (fun T ρ s vs kvs B hT ia ek ik => ?_) (sp_run w L _ n' st' ln' sl) (by simp [AllP])) (by rfl) ?_
  · obtain ⟨a, rfl, i⟩ := isL1 ia
    cases kvs with
    | cons _ _ => cases ek
    | nil => exact bind_al B.k (sp_bind w a _ _ _) (sp_names w) (loc_binds rfl (.cons i (.cons (.v _) (.cons (.v _) .nil))) (nodupB_ok (l := ["s", "comments", "posix"]) (by decide)))
  · show PV.ltL 0 _ = true
    exact ltL_strs ts
end oL2l
section P1
open PySem PySem.W PyProof.Rows PySem.Builtin PySem.Builtin.Re
noncomputable def reCode : Array Nat := #[14, 17, 4, 1, 1, 21, 9, 0, 604043296, 1, 0, 0, 0, 0, 0, 8, 4, 0, 13, 14, 21, 9, 0, 604043296, 1, 0, 0, 0, 0, 0, 8, 4, 0, 1]
noncomputable def sfBit (c : Nat) : Bool := decide (c < 256) && (reCode.getD (6 + (1 + c / 32)) 0).testBit (c % 32)
noncomputable def sf (c : Nat) : Bool := sfBit c || Sre.isWord c
open Sre
theorem inSet_a (c n : Nat) (seen : Sre.Seen) : inSet reCode c (n + 1) 5 true seen = inSet reCode c n 6 false (seen.add 21) := by kernel_rfl
theorem inSet_b (c n : Nat) (seen : Sre.Seen) : inSet reCode c (n + 1) 6 false seen = if sfBit c = true then .ok (false, seen.add 9) else inSet reCode c n 15 false (seen.add 9) := by kernel_rfl
theorem inSet_c (c n : Nat) (seen : Sre.Seen) : inSet reCode c (n + 1) 15 false seen = if (isWord c != false) = true then .ok (false, (seen.add 8).add 59) else inSet reCode c n 17 false ((seen.add 8).add 59) := by kernel_rfl
theorem inSet_d (c n : Nat) (seen : Sre.Seen) : inSet reCode c (n + 1) 17 false seen = .ok (true, seen.add 0) := by kernel_rfl
theorem inSet_a' (c n : Nat) (seen : Sre.Seen) : inSet reCode c (n + 1) 20 true seen = inSet reCode c n 21 false (seen.add 21) := by kernel_rfl
noncomputable def sfBit2 (c : Nat) : Bool := decide (c < 256) && (reCode.getD (21 + (1 + c / 32)) 0).testBit (c % 32)
theorem sfBit_eq (c : Nat) : sfBit2 c = sfBit c := by
  unfold sfBit sfBit2
  by_cases h : c < 256
  · have h8 : c / 32 < 8 := by omega
    have e : ∀ j, j < 8 → reCode.getD (21 + (1 + j)) 0 = reCode.getD (6 + (1 + j)) 0 := by decide
    rw [e _ h8]
  · simp [h]
theorem inSet_b' (c n : Nat) (seen : Sre.Seen) : inSet reCode c (n + 1) 21 false seen = if sfBit2 c = true then .ok (false, seen.add 9) else inSet reCode c n 30 false (seen.add 9) := by kernel_rfl
theorem inSet_c' (c n : Nat) (seen : Sre.Seen) : inSet reCode c (n + 1) 30 false seen = if (isWord c != false) = true then .ok (false, (seen.add 8).add 59) else inSet reCode c n 32 false ((seen.add 8).add 59) := by kernel_rfl
theorem inSet_d' (c n : Nat) (seen : Sre.Seen) : inSet reCode c (n + 1) 32 false seen = .ok (true, seen.add 0) := by kernel_rfl
theorem inSet_5 (c : Nat) (seen : Sre.Seen) : ∃ seen', inSet reCode c 34 5 true seen = .ok (!sf c, seen') := by
  rw [inSet_a c 33, inSet_b c 32, inSet_c c 31, inSet_d c 30]
  unfold sf
  by_cases h1 : sfBit c = true
  · rw [if_pos h1, h1]; exact ⟨_, rfl⟩
  · rw [if_neg h1]
    rw [Bool.not_eq_true] at h1
    rw [h1]
    cases h2 : isWord c with
    | true => exact ⟨_, rfl⟩
    | false => exact ⟨_, rfl⟩
theorem inSet_20 (c : Nat) (seen : Sre.Seen) : ∃ seen', inSet reCode c 34 20 true seen = .ok (!sf c, seen') := by
  rw [inSet_a' c 33, inSet_b' c 32, sfBit_eq, inSet_c' c 31, inSet_d' c 30]
  unfold sf
  by_cases h1 : sfBit c = true
  · rw [if_pos h1, h1]; exact ⟨_, rfl⟩
  · rw [if_neg h1]
    rw [Bool.not_eq_true] at h1
    rw [h1]
    cases h2 : isWord c with
    | true => exact ⟨_, rfl⟩
    | false => exact ⟨_, rfl⟩
theorem admitted_is (m : M) (hc : m.code = reCode) : ∀ (fuel s : Nat) (seen : Sre.Seen), m.lim < s + fuel → ∃ r seen', M.admitted m fuel s seen = .ok (r, seen') ∧ (match r with
    | none => ∀ k, s ≤ k → k < m.lim → sf (m.text.getD k 0) = true
    | some k => s ≤ k ∧ k < m.lim ∧ sf (m.text.getD k 0) = false)
  | 0, s, seen, h => ⟨none, seen, rfl, fun k h1 h2 => absurd h (by omega)⟩
  | fuel + 1, s, seen, h => by
    unfold M.admitted
    by_cases hs : s ≥ m.lim
    · rw [if_pos hs]; exact ⟨none, seen, rfl, fun k h1 h2 => absurd h2 (by omega)⟩
    · rw [if_neg hs, hc]
      obtain ⟨seen', e⟩ := inSet_5 (m.text.getD s 0) seen
      rw [show reCode.size = 34 from rfl, e]
      cases hq : sf (m.text.getD s 0) with
      | false => exact ⟨some s, seen', rfl, Nat.le_refl _, by omega, hq⟩
      | true =>
        obtain ⟨r, s2, e2, h2⟩ := admitted_is m hc fuel (s + 1) seen' (by omega)
        refine ⟨r, s2, e2, ?_⟩
        cases r with
        | none =>
          intro k h1 h3
          by_cases g : k = s
          · subst g; exact hq
          · exact h2 k (by omega) h3
        | some k => exact ⟨by have := h2.1; omega, h2.2⟩
noncomputable def m0 (text : Array Nat) : M := { code := reCode, text, lim := text.size, start := 0, pc := 18, pos := 0, handed := 0, marks := #[], mustAdvance := false, seen := ({} : Sre.Seen).add 14 }
theorem forSearch_is (text : Array Nat) : forSearch reCode text 0 0 text.size false = if (decide (0 > text.size) || decide (text.size - 0 < 1)) = true then (m0 text).say false else M.attemptFrom { m0 text with lastStart := text.size } 0 true := by kernel_rfl
noncomputable def m1 (text : Array Nat) (seen : Sre.Seen) : M := { m0 text with lastStart := text.size, seen := seen }
noncomputable def m2 (text : Array Nat) (k : Nat) (seen : Sre.Seen) : M := M.attemptAt { m1 text seen with mustAdvance := false } k true
theorem attempt_is (text : Array Nat) : M.attemptFrom { m0 text with lastStart := text.size } 0 true = (match M.admitted (m1 text (({} : Sre.Seen).add 14)) (text.size + 1) 0 (({} : Sre.Seen).add 14) with
    | .ok (some s, seen) => m2 text s seen
    | .ok (none, seen) => (m1 text seen).say false
    | .error why => (m1 text (({} : Sre.Seen).add 14)).stick why) := by kernel_rfl
theorem fail_run (text : Array Nat) (seen : Sre.Seen) : (M.runFor 4 ((m1 text seen).say false)).outcome = some .failed := by kernel_rfl
theorem fail_run0 (text : Array Nat) : (M.runFor 4 ((m0 text).say false)).outcome = some .failed := by kernel_rfl
theorem m2_step (text : Array Nat) (k : Nat) (seen : Sre.Seen) : M.step (m2 text k seen) = (if k ≥ text.size then M.say { m2 text k seen with seen := seen.add 13 } false else match Sre.inSet reCode (text.getD k 0) 34 20 true (seen.add 13) with
    | .error why => M.stick { m2 text k seen with seen := seen.add 13 } why
    | .ok (false, s) => M.say { m2 text k seen with seen := s } false
    | .ok (true, s) => { m2 text k seen with seen := s, pc := 33, pos := k + 1 }) := by kernel_rfl
theorem m2_rest (text : Array Nat) (k : Nat) (seen s : Sre.Seen) : (M.runFor 3 { m2 text k seen with seen := s, pc := 33, pos := k + 1 }).outcome = some .matched := by kernel_rfl
theorem m2_none (text : Array Nat) (k : Nat) (seen : Sre.Seen) : M.runFor 4 (m2 text k seen) = M.runFor 3 (M.step (m2 text k seen)) := by kernel_rfl
theorem hit_run {text : Array Nat} {k : Nat} (seen : Sre.Seen) (hk : k < text.size) (hs : sf (text.getD k 0) = false) : (M.runFor 4 (m2 text k seen)).outcome = some .matched := by
  rw [m2_none, m2_step, if_neg (by omega)]
  obtain ⟨s, e⟩ := inSet_20 (text.getD k 0) (seen.add 13)
  rw [e, hs]
  exact m2_rest text k seen s
theorem search_end (text : Array Nat) : (M.runFor 4 (forSearch reCode text 0 0 text.size false)).outcome = some (if text.toList.all sf then .failed else .matched) := by
  rw [forSearch_is]
  by_cases h0 : (decide (0 > text.size) || decide (text.size - 0 < 1)) = true
  · rw [if_pos h0, fail_run0]
    have : text.size = 0 := by rcases Bool.or_eq_true_iff.mp h0 with q | q <;> have := of_decide_eq_true q <;> omega
    rw [Array.size_eq_zero_iff.mp this]; rfl
  · rw [if_neg h0, attempt_is]
    obtain ⟨r, seen', e, h⟩ := admitted_is (m1 text (({} : Sre.Seen).add 14)) rfl (text.size + 1) 0 (({} : Sre.Seen).add 14) (by show text.size < _; omega)
    rw [e]
    have hh : ∀ k, text.getD k 0 = text.toList.getD k 0 := fun k => by simp
    cases r with
    | none =>
      have : text.toList.all sf = true := by
        rw [List.all_eq_true]
        intro c hc
        obtain ⟨k, hk, e⟩ := List.mem_iff_getElem.mp hc
        have := h k (Nat.zero_le _) (show k < text.size by simpa using hk)
        have e2 : (m1 text (({} : Sre.Seen).add 14)).text.getD k 0 = c := by
          show text.getD k 0 = c
          rw [hh, List.getD_eq_getElem?_getD, List.getElem?_eq_getElem hk, e]; rfl
        rw [e2] at this; exact this
      rw [this]
      exact fail_run text seen'
    | some k =>
      obtain ⟨_, h2, h3⟩ := h
      have h2 : k < text.size := h2
      have h3 : sf (text.getD k 0) = false := h3
      have : text.toList.all sf = false := by
        rw [Bool.eq_false_iff]
        intro q
        rw [List.all_eq_true] at q
        have hk : k < text.toList.length := by simpa using h2
        have := q (text.toList[k]) (List.getElem_mem hk)
        rw [hh, List.getD_eq_getElem?_getD, List.getElem?_eq_getElem hk] at h3
        have h3 : sf text.toList[k] = false := h3
        rw [this] at h3; cases h3
      rw [this]
      exact hit_run seen' h2 h3
end P1
section oP2
open PySem PySem.W PyProof.Rows PySem.Builtin PySem.Builtin.Re
theorem drive_is {m : Sre.M} (h : (m.runFor 4).outcome.isSome = true) : reDrive (2 ^ 64) m = pure (m.runFor 4) := by
  have e : (2 : Nat) ^ 64 = 18446744073709551615 + 1 := by decide
  rw [e]
  show (if (m.runFor 4).outcome.isSome then pure (m.runFor 4) else _) = _
  rw [if_pos h]
theorem rules_loop {M : Model} {A : Around} {E : Value → Shared → Prop} {Q : PUnit → Shared → Prop} {f : Nat → PUnit → Sem (ForInStep PUnit)} (hf : ∀ i u s (R : ForInStep PUnit → Shared → Prop), R (.yield PUnit.unit) s → wpAny M A (f i u) R E s) : ∀ (l : List Nat) (s : Shared), Q PUnit.unit s → wpAny M A (forIn l PUnit.unit f) Q E s
  | [], s, h => by rw [List.forIn_nil]; exact wpAny_pure h
  | i :: r, s, h => by
    rw [List.forIn_cons]
    exact wpAny_bind (hf i _ s _ (rules_loop hf r s h))
theorem run_end {M : Model} {A : Around} {E : Value → Shared → Prop} {s : Shared} {m : Sre.M} {b : Bool} {Q : Option Sre.M → Shared → Prop} (h : (m.runFor 4).outcome = some (if b then .failed else .matched)) (h1 : b = true → Q none s) (h2 : b = false → ∀ m', Q (some m') s) : wpAny M A (reRunToEnd m) Q E s := by
  unfold reRunToEnd
  rw [drive_is (by rw [h]; rfl)]
  refine wpAny_bind (wpAny_pure (wpAny_bind (rules_loop (fun i u s R hr => ?_) _ s ?_)))
  · split
    · exact wpAny_bind (wpAny_rule (wpAny_pure hr))
    · exact wpAny_pure hr
  · rw [h]
    cases b with
    | true => exact wpAny_pure (h1 rfl)
    | false => exact wpAny_pure (h2 rfl _)
theorem target_is (w : Wn) (x : Str) (t : Tok) : runPure (WW w).K 300 (reTarget "re.Pattern.search" "search" ⟨[.ref 49, .str x t], []⟩) = some { pattern := .ref 49, string := .str x t, code := reCode, text := x.cps, kind := 0, groups := 0, pos := min 0 x.cps.size, lim := min (2 ^ 63 - 1) x.cps.size } := by kernel_rfl
theorem check_is (w : Wn) (x : Str) (t : Tok) : runPure (WW w).K 300 (checkBoundCall "re.Pattern.search" ⟨[.ref 49, .str x t], []⟩) = some () := by kernel_rfl
theorem new_match {M : Model} {A : Around} {E : Value → Shared → Prop} {s : Shared} {p v : Value} {pos lim : Nat} {m : Sre.M} {Q : Value → Shared → Prop} (h : ∀ a o o', Q (.ref a) { s with heap := (s.heap.push o).push o' }) : wpAny M A (reNewMatch p v 0 pos lim m) Q E s := by
  show wpAny M A (newTuple [rawInt m.start, rawInt m.handed] >>= fun tp => newFields "re.Match" [v, p, rawInt pos, rawInt lim, rawInt m.lastindex, tp]) Q E s
  refine wpAny_bind (wpAny_newTuple ?_ (by rw [sizeLine_eq]; show 2 ≤ _; decide))
  exact wpAny_newObj_type (h _ _ _) (by show 6 ≤ _; rw [sizeLine_eq]; decide)
theorem fu_at (w : Wn) : (WW w).K.lookup 752 = some ⟨.type "builtin_function_or_method", none, .fields #[.builtin "re.Pattern.search", .ref 49], #[]⟩ := by kernel_rfl
theorem fu_entry : entryFor table "re.Pattern.search" = some Builtin.«re.Pattern.search» := entryFor_of_tree (by kernel_rfl)
theorem fu_quiet (args : Args) : (Code.builtin "re.Pattern.search" args).quiet = true := plainId_quiet (by decide +kernel) args
noncomputable def fuP (x : Str) : PV := if x.cps.toList.all sf then .v .none else .any
theorem spec_fu (w : Wn) (x : Str) (hz : x.length ≤ sizeLine) : SpecP (WW w) 1 (.ref 752) [.s x] (fuP x) := by
  rintro objs c ok e room s vs Q E B live frs O ia hq
  have hK : c.K = (WW w).K := congrArg Wd.K e
  obtain ⟨v, rfl, i⟩ := isL1 ia
  obtain ⟨t, rfl⟩ := i.is
  have X : (WW w).K.In s.heap := hK ▸ B.k
  refine wpAny_call (codeAny_of_tree ?_)
  show wpAny c.M c.A.in1 (callAny (.ref 752) ⟨[.str x t], []⟩) _ _ s
  refine nd_load (X _ _ (fu_at w)) ?_
  show wpAny c.M c.A.in1 (checkBoundCall "re.Pattern.search" ⟨[.ref 49, .str x t], []⟩ >>= fun _ => again (.builtin "re.Pattern.search" ⟨[.ref 49, .str x t], []⟩)) _ _ s
  refine wpAny_bind (runPure_sound X (check_is w x t) (wpAny_pure ⟨fu_quiet _, codeAny_builtin fu_entry ?_⟩))
  unfold Builtin.«re.Pattern.search»
  refine wpAny_bind (runPure_sound X (target_is w x t) ?_)
  have hl : min (2 ^ 63 - 1) x.cps.size = x.cps.size := by
    have : x.cps.size ≤ sizeLine := hz
    rw [sizeLine_eq] at this; omega
  unfold reAnswer
  dsimp only
  rw [hl, Nat.zero_min]
  unfold fuP at hq
  refine wpAny_bind (run_end (search_end x.cps) (fun h => ?_) fun h m' => ?_)
  · rw [if_pos h] at hq
    exact wpAny_pure (hq s .none (.refl s) B frs O (.v _))
  · rw [if_neg (by rw [h]; exact Bool.false_ne_true)] at hq
    refine wpAny_bind (new_match fun a o o' => wpAny_pure ?_)
    have kp : Keep c.N [] s.heap ((s.heap.push o).push o') := .of_all fun b o eb => Heap.get?_push_of_some _ (Heap.get?_push_of_some _ eb)
    exact hq { s with heap := (s.heap.push o).push o' } _ ⟨kp.all, .refl _, rfl⟩ (B.keep (T := []) ok.lowK (fun _ h => nomatch h) ok.lo kp) (frs.keep kp) (fun j po ej => (O j po ej).keep kp (fun _ _ _ z => nomatch z) (fun _ z => nomatch z) kp.all) .any
end oP2
section oP3
noncomputable def repQ (l : List Nat) : List Nat := l.flatMap fun d => if d = 39 then [39, 34, 39, 34, 39] else [d]
noncomputable def quoteL (l : List Nat) : List Nat := if l.isEmpty then [39, 39] else if l.all sf then l else 39 :: (repQ l ++ [39])
theorem repQ_free {l : List Nat} (h : 39 ∉ l) : repQ l = l := by
  induction l with
  | nil => rfl
  | cons a r ih =>
    have h1 : a ≠ 39 := fun e => h (e ▸ .head _)
    have h2 : 39 ∉ r := fun m => h (.tail _ m)
    show (if a = 39 then _ else [a]) ++ repQ r = _
    rw [if_neg h1, ih h2]; rfl
theorem repQ_append (a b : List Nat) : repQ (a ++ b) = repQ a ++ repQ b := List.flatMap_append ..
theorem repQ_join : ∀ parts : List Str, (∀ p ∈ parts, 39 ∉ p.cps.toList) → repQ (Str.join ⟨#[39]⟩ parts).cps.toList = (Str.join "'\"'\"'" parts).cps.toList
  | [], _ => rfl
  | [p], h => repQ_free (h p (List.mem_singleton.mpr rfl))
  | p :: q :: r, h => by
    have ih := repQ_join (q :: r) fun a ha => h a (List.mem_cons_of_mem _ ha)
    show repQ (p ++ ⟨#[39]⟩ ++ Str.join ⟨#[39]⟩ (q :: r)).cps.toList = (p ++ "'\"'\"'" ++ Str.join "'\"'\"'" (q :: r)).cps.toList
    simp only [Str.cps_append, Array.toList_append]
    rw [repQ_append, repQ_append, ih, repQ_free (h p (List.mem_cons_self ..))]
    rfl
theorem replace_q (l : List Nat) : Txt.replace (tx l) "'" "'\"'\"'" = tx (repQ l) := by
  have e : (Str.ofString "'") = ⟨#[39]⟩ := by decide +kernel
  rw [e]
  have h := repQ_join (Txt.split (tx l) ⟨#[39]⟩) (StrLaws.split_free (tx l) 39)
  rw [StrLaws.join_split, ← StrLaws.replace_one] at h
  apply Str.ext'
  apply Array.toList_inj.mp
  rw [← h]; rfl
theorem repQ_len (l : List Nat) : (repQ l).length ≤ 5 * l.length := by
  induction l with
  | nil => exact Nat.le_refl _
  | cons a r ih =>
    show ((if a = 39 then _ else [a]) ++ repQ r).length ≤ _
    rw [List.length_append]
    split <;> simp <;> omega
noncomputable abbrev quFd (w : Wn) : FuncData := fdOf (WW w).K 759
theorem qu_def (w : Wn) : defOk (WW w).K 759 ["s"] = true := by kernel_rfl
theorem qu_bind (w : Wn) (v : Value) : runPure (WW w).K 30 (bindArgs (quFd w) ⟨[v], []⟩) = some ([("s", v)] : List (Str × Value)) := by kernel_rfl
theorem keep_fu (w : Wn) : keepOk (WW w).K (.ref 752) = true := by kernel_rfl
noncomputable abbrev FuIs (w : Wn) (x : Str) (r : PV) (objs : List PO) : Prop := Spec (WW w) 1 (.ref 752) [.s x] objs r objs
noncomputable abbrev quCfg {w : Wn} {x : Str} {r : PV} {objs : List PO} (h : FuIs w x r objs) : Cfg := mkCfg (quFd w).scope tabs (POrc.one (keep_fu w) h) (.none _ _)
theorem qu_run0 (w : Wn) (objs : List PO) : xr (mkCfg (W := WW w) (D := 1) (quFd w).scope tabs (blt _ _) (.none _ _)) 60 (bodyOf (quFd w)) [] ⟨[("s", .s (tx []))], objs⟩ = some (.ret (.s "''"), objs, [(tx []).length ≤ sizeLine]) := by kernel_rfl
theorem qu_run1 (w : Wn) (a : Nat) (r : List Nat) (objs : List PO) (h : FuIs w (tx (a :: r)) (.v .none) objs) : xr (quCfg h) 60 (bodyOf (quFd w)) [] ⟨[("s", .s (tx (a :: r)))], objs⟩ = some (.ret (.s (tx (a :: r))), objs, [(tx (a :: r)).length ≤ sizeLine, Rf ([PV.s (tx (a :: r))], objs)]) := by kernel_rfl
theorem qu_run2 (w : Wn) (a : Nat) (r : List Nat) (objs : List PO) (h : FuIs w (tx (a :: r)) .any objs) : xs (quCfg h) 60 ((bodyOf (quFd w)).take 2) [] ⟨[("s", .s (tx (a :: r)))], objs⟩ = some (.next, [], ⟨[("s", .s (tx (a :: r)))], objs⟩, [(tx (a :: r)).length ≤ sizeLine, Rf ([PV.s (tx (a :: r))], objs)]) := by kernel_rfl
structure RepX where
  a : Str
  y : Str
  b : Str
  d : Str
  e : Str
  ka : Nat
  pa : Pos
  py : Pos
  apos : Pos
  kb : Nat
  pb : Pos
  kd : Nat
  pd : Pos
  cp : Pos
  p1 : Pos
  ke : Nat
  pe : Pos
  p2 : Pos
  p3 : Pos
noncomputable def RepX.ex (r : RepX) : Expr := .BinOp (.BinOp (.Constant (.str r.a) r.ka r.pa) .Add (.Call (.Attribute (.Name r.y r.py) "replace" r.apos) [.Constant (.str r.b) r.kb r.pb, .Constant (.str r.d) r.kd r.pd] [] r.cp) r.p1) .Add (.Constant (.str r.e) r.ke r.pe) r.p2
noncomputable def RepX.st (r : RepX) : Stmt := .Return (some r.ex) r.p3
set_option backward.match.sparseCases false in
noncomputable def repX : Stmt → Option RepX
  | .Return (some (.BinOp (.BinOp (.Constant (.str a) ka pa) .Add (.Call (.Attribute (.Name y py) n apos) [.Constant (.str b) kb pb, .Constant (.str d) kd pd] [] cp) p1) .Add (.Constant (.str e) ke pe) p2)) p3 => some ⟨a, y, b, d, e, ka, pa, py, apos, kb, pb, kd, pd, cp, p1, ke, pe, p2, p3⟩
  | _ => none
theorem qu_shape (w : Wn) : ∃ r : RepX, (bodyOf (quFd w)).drop 2 = [r.st] ∧ r.a = "'" ∧ r.y = "s" ∧ r.b = "'" ∧ r.d = "'\"'\"'" ∧ r.e = "'" ∧ (r.apos.endLine == r.cp.line) = true := by
  have h : ((((bodyOf (quFd w)).drop 2).head?).bind repX).isSome = true := by kernel_rfl
  obtain ⟨r, e⟩ := Option.isSome_iff_exists.mp h
  refine ⟨((((bodyOf (quFd w)).drop 2).head?).bind repX).get h, ?_, ?_, ?_, ?_, ?_, ?_, ?_⟩ <;> kernel_rfl
theorem qu_name (w : Wn) : (quFd w).scope.names.lookup ("s" : Str) = some NameKind.local := by kernel_rfl
theorem sum_wp {prog : Program} {w : World} {A : Around} {s : Shared} {x y : Str} {t u : Tok} {Q E : Value → Shared → Prop} (hz : (x ++ y).length ≤ sizeLine) (hq : ∀ t' tk, Q (.str (x ++ y) t') { s with toks := tk }) : wpAny (model prog w) A (binaryOp .Add (.str x t) (.str y u)) Q E s := P.add_str (made_add hz fun _ _ => hq _ _)
theorem ev_rep {c : Fc} {V : View} {r : RepX} {x : Str} (ok : c.Ok) (hk : c.env.kindOf r.y = some .local) (hd : (r.y == ("__debug__" : Str)) = false) (hx : V.loc.lookup r.y = some (.s x)) (hl : (r.apos.endLine == r.cp.line) = true) (hbd : (r.b == r.d) = false) (hz : x.length ≤ 1048576) (hd14 : r.d.length ≤ 14)
    (z1 : (r.a ++ Txt.replace x r.b r.d).length ≤ sizeLine) (z2 : (r.a ++ Txt.replace x r.b r.d ++ r.e).length ≤ sizeLine) : EvOk c r.ex V (.s (r.a ++ Txt.replace x r.b r.d ++ r.e)) V := by
  intro s Q E I h
  refine wpAny_BinOp (wpAny_BinOp (wpAny_Constant_str ?_))
  rw [mc_eq (args := [_, _]) base_name hl rfl (show 2 < 30 by decide)]
  have I1 : Inv c V { s with toks := s.toks + 1 } := I.toks _
  obtain ⟨m, hn, hlo⟩ := I1.rep.ns
  obtain ⟨v, e1, i1⟩ := hlo _ _ hx
  obtain ⟨t, rfl⟩ := i1.is
  refine wpAny_bind (wpAny_Name (wpAny_loadName_local ok.kind hk (by rw [ok.loc]; exact hn.ns) e1 ?_) hd)
  refine wpAny_bind (wpAny_standAt (wpAny_bind (wpAny_holding (GM.replace ?_))))
  refine callWith_of (P := c.K.In) (by rw [starEach_any (by rfl)]; rfl) (keeps_ok (K := c.K) (f := .builtin "str.replace") rfl) (evalArgs_any (starEach_any (by rfl)) ?_)
  rw [starEach_cons (by rfl), starEach_cons (by rfl)]
  refine Calls.spliced_cons (wpAny_Constant_str (k := r.kb) (pos := r.pb) (Calls.spliced_cons (wpAny_Constant_str (k := r.kd) (pos := r.pd) (Calls.spliced_nil ⟨I.base.k, ?_⟩))))
  refine SC.replaceW (u := s.toks + 1) (v := s.toks + 1 + 1) (Nat.succ_ne_zero _) (Nat.succ_ne_zero _) (Nat.ne_of_lt (Nat.lt_succ_self _)) hbd hz hd14 fun t' k => ?_
  refine sum_wp z1 fun t2 k2 => wpAny_Constant_str (sum_wp z2 fun t3 k3 => ?_)
  exact h _ _ (I.toks k3) (.toks k3) (.s _ _)
theorem spec_quote (w : Wn) (l : List Nat) (hz : l.length ≤ 1000000) : SpecP (WW w) 2 (.ref 759) [.s (tx l)] (.s (tx (quoteL l))) := by
  have hzl : (tx l).length ≤ sizeLine := by rw [tx_len, sizeLine_eq]; omega
  intro objs
  have fu := spec_fu w (tx l) hzl objs
  have bd : ∀ (T : List Addr) (ρ : List (Addr × Addr)) (s : Shared) (vs : List Value), Base (WW w).K (WW w).N s.heap → (∀ b ∈ T, (WW w).N ≤ b) → IsL T ρ s.heap [.s (tx l)] vs → ∃ binds, runPure (WW w).K 30 (bindArgs (fdOf (WW w).K 759) ⟨vs, []⟩) = some binds ∧ binds.map (·.1) = (["s"] : List Str) ∧ IsL T ρ s.heap (([("s", .s (tx l))] : List (Str × PV)).map (·.2)) (binds.map (·.2)) := fun T ρ s vs B hT ia => by
    obtain ⟨v, rfl, i⟩ := isL1 ia
    exact ⟨_, qu_bind w v, rfl, .cons i .nil⟩
  refine SpecC.spec ?_
  cases l with
  | nil => exact spec_run (by decide) (qu_def w) (tabs_ok w) rfl bd (qu_run0 w objs) ⟨hzl, trivial⟩
  | cons a r =>
    unfold fuP at fu
    cases hs : ((tx (a :: r)).cps.toList.all sf) with
    | true =>
      have e : quoteL (a :: r) = a :: r := by
        show (if (a :: r).all sf then _ else _) = _
        rw [if_pos (show (a :: r).all sf = true from hs)]
      rw [e]
      rw [if_pos hs] at fu
      exact spec_run (by decide) (qu_def w) (tabs_ok w) rfl bd (qu_run1 w a r objs fu) ⟨hzl, rfl, trivial⟩
    | false =>
      have e : quoteL (a :: r) = 39 :: (repQ (a :: r) ++ [39]) := by
        show (if (a :: r).all sf then _ else _) = _
        rw [if_neg (by rw [show (a :: r).all sf = false from hs]; exact Bool.false_ne_true)]
      rw [e]
      rw [if_neg (by rw [hs]; exact Bool.false_ne_true)] at fu
      obtain ⟨x, hb, ea, ey, eb, ed, ee, hl⟩ := qu_shape w
      refine spec_body (D := 1) (fl := .ret (.s (tx (39 :: (repQ (a :: r) ++ [39]))))) (loc := [("s", .s (tx (a :: r)))]) (qu_def w) rfl bd fun c ok e room hs => ?_
      have gk := mkCfg_ok (t := tabs) (po := POrc.one (keep_fu w) fu) (eo := .none _ _) ok e room (by decide) hs (tabs_ok w)
      refine ⟨⟨[("s", .s (tx (a :: r)))], objs⟩, ?_, rfl⟩
      have hsplit : bodyOf (fdOf (WW w).K 759) = (bodyOf (quFd w)).take 2 ++ [x.st] := by rw [← hb, List.take_append_drop]
      rw [hsplit]
      refine xs_app ok gk (qu_run2 w a r objs fu) ⟨hzl, rfl, trivial⟩ (ex_stop (sx_return ?_) (fun q => nomatch q))
      have hlen := repQ_len (a :: r)
      have er : Txt.replace (tx (a :: r)) x.b x.d = tx (repQ (a :: r)) := by rw [eb, ed]; exact replace_q _
      have e1 : x.a ++ Txt.replace (tx (a :: r)) x.b x.d = tx (39 :: repQ (a :: r)) := by
        rw [er, ea]
        apply Str.ext'; apply Array.toList_inj.mp
        rw [Str.cps_append, Array.toList_append]; rfl
      have e2 : x.a ++ Txt.replace (tx (a :: r)) x.b x.d ++ x.e = tx (39 :: (repQ (a :: r) ++ [39])) := by
        rw [e1, ee]
        apply Str.ext'; apply Array.toList_inj.mp
        rw [Str.cps_append, Array.toList_append]; rfl
      rw [← e2]
      refine ev_rep ok (by unfold Env.kindOf; rw [hs, ey]; exact qu_name w) (by rw [ey]; decide) (by rw [ey]; rfl) hl (by rw [eb, ed]; decide +kernel) (by rw [tx_len]; omega) (by rw [ed]; decide +kernel) ?_ ?_
      · rw [e1, tx_len, sizeLine_eq]; simp at hlen hz ⊢; omega
      · rw [e2, tx_len, sizeLine_eq]; simp at hlen hz ⊢; omega
end oP3
section G4
set_option backward.match.sparseCases false in
noncomputable def isStrV : Value → Bool
  | .str _ _ => true
  | _ => false
set_option backward.match.sparseCases false in
noncomputable def isIntV : Value → Bool
  | .int _ _ => true
  | _ => false
set_option backward.match.sparseCases false in
noncomputable def isBoolV : Value → Bool
  | .bool _ => true
  | _ => false
theorem isStrV_is {v : Value} (h : isStrV v = true) : ∃ a b, v = .str a b := by
  cases v with
  | str a b => exact ⟨a, b, rfl⟩
  | _ => exact nof h
theorem isIntV_is {v : Value} (h : isIntV v = true) : ∃ a b, v = .int a b := by
  cases v with
  | int a b => exact ⟨a, b, rfl⟩
  | _ => exact nof h
theorem isBoolV_is {v : Value} (h : isBoolV v = true) : ∃ a, v = .bool a := by
  cases v with
  | bool a => exact ⟨a, rfl⟩
  | _ => exact nof h
noncomputable def codeB (o : Obj) (P : Addr) : Bool := tabOf o == some P && (fldsOf o.data).any fun vs => vs.getD 11 .none == .ref P && (isStrV (vs.getD 18 .none) && (isIntV (vs.getD 7 .none) && (isBoolV (vs.getD 9 .none) && isIntV (vs.getD 10 .none))))
noncomputable def codeAtB (K : Frag) (c P : Addr) : Bool := (K.lookup c).any (codeB · P)
theorem codeAtB_is {K : Frag} {c P : Addr} (hc : codeAtB K c P = true) : ∃ o, K.lookup c = some o ∧ tabOf o = some P ∧ codeB o P = true := by
  obtain ⟨o, hK, h⟩ := (Option.any_eq_true _ _).mp hc
  exact ⟨o, hK, eq_of_beq (Bool.and_eq_true_iff.mp h).1, h⟩
theorem Base.isCode {K : Frag} {N : Nat} {h : Heap} (lk : lowK K N = true) (B : Base K N h) {c P : Addr} (hc : codeAtB K c P = true) : ∃ ps, h.IsCode c P ps ∧ h.TableAt c P ps := by
  obtain ⟨o, hK, ht, hb⟩ := codeAtB_is hc
  obtain ⟨vs, ed, hd⟩ := (Option.any_eq_true _ _).mp (Bool.and_eq_true_iff.mp hb).2
  have ed := fldsOf_is ed
  have he := B.k c o hK
  obtain ⟨ps, eP, tr⟩ := B.tab c o P hK ht
  obtain ⟨h11, hd⟩ := Bool.and_eq_true_iff.mp hd
  obtain ⟨h18, hd⟩ := Bool.and_eq_true_iff.mp hd
  obtain ⟨h7, hd⟩ := Bool.and_eq_true_iff.mp hd
  obtain ⟨h9, h10⟩ := Bool.and_eq_true_iff.mp hd
  obtain ⟨file, tf, h18⟩ := isStrV_is h18
  obtain ⟨fl, tg, h7⟩ := isIntV_is h7
  obtain ⟨inF, h9⟩ := isBoolV_is h9
  obtain ⟨tx, tt, h10⟩ := isIntV_is h10
  obtain ⟨hcl, us, hus, h11'⟩ := tabOf_is ht
  refine ⟨ps, ⟨o, vs, file, tf, fl, tg, inF, tx, tt, _, he, ed, eq_of_beq h11, h18, h7, h9, h10, eP, rfl, tr, fun q => ?_⟩, ⟨o, vs, he, hcl, ed, ?_⟩, eP⟩
  · subst q
    rw [he] at eP
    exact (lowK_at lk hK).2.1 ps (Option.some.inj eP)
  · rw [ed] at hus
    cases hus
    exact h11'
section
variable {W : Wd} {M : Model} {A : Around} {E : Value → Shared → Prop} {s : Shared}
theorem wp_gcode {env : Env} {c P : Addr} {pos : Pos} {qualname : Str} {scope : Scope} {Q : Value → Shared → Prop} (hc : env.code = .ref c) (lk : lowK W.K W.N = true) (B : Base W.K W.N s.heap) (hK : codeAtB W.K c P = true) (nl : P ≠ lamTab)
    (h : ∀ code h' tk, Keep W.N [] s.heap h' → Q code { s with heap := h', toks := tk }) : wpAny M A (genexprCode env pos qualname scope) Q E s := by
  obtain ⟨ps, ic, ta⟩ := B.isCode lk hK
  cases hf : codeAmong pos ps.toList with
  | some c' => exact wpAny_genexprCode_hit hc ic hf (h c' s.heap s.toks (.refl _))
  | none =>
    refine wpAny_genexprCodeX hc ic ta hf fun c' h' tk xb _ _ ic' _ ta' _ => h _ h' tk ⟨fun b o _ e => ?_, fun b o e => ?_⟩
    · by_cases hb : b = P
      · subst hb
        have := ta.2
        rw [e] at this; cases this
        rw [ta'.2]
        have lt : b < topN := by
          obtain ⟨o', hl, ht, _⟩ := codeAtB_is hK
          exact ((lowK_at lk hl).2.2 b ht).2
        refine .tab ps _ lt nl rfl fun _ => ?_
        obtain ⟨_, _, _, _, _, _, _, _, _, op, _, _, _, _, _, _, _, hop, hpd, htr, _⟩ := ic'
        exact htr
      · rw [xb b o hb e]; exact .same
    · by_cases hb : b = P
      · subst hb; exact ⟨_, ta'.2⟩
      · exact ⟨o, xb b o hb e⟩
theorem wp_genEnv {scope : Scope} {glb bi : Addr} {it code : Value} {qual : Str} {Q : Env → Shared → Prop} (hcell : ∀ x ∈ scope.names, x.2 ≠ .cell) (h0 : scope.names.lookup (".0" : Str) = some .local) (hk : scope.kind = .function)
    (h : ∀ h' m, FrameAt h' s.heap.objs.size m → (∀ b o, s.heap.get? b = some o → h'.get? b = some o) → h'.objs.size = s.heap.objs.size + 1 → Q { scope, locals := s.heap.objs.size, globals := glb, cells := [], qual, func := none, code, frame := some s.heap.objs.size, builtins := bi } { s with heap := h', toks := s.toks + 1 }) :
    wpAny M A (newFunctionEnv scope glb [] [(".0", it)] qual none code none bi) Q E s := by
  simp only [newFunctionEnv, Option.isSome_none, Bool.false_eq_true, if_false]
  refine wpAny_bind (wpAny_alloc ?_)
  rw [forIn_yield_id [] (fun x hx c => by
    obtain ⟨name, kind⟩ := x
    have : (kind == NameKind.cell) = false := by simpa using hcell _ hx
    simp only [this, Bool.false_eq_true, if_false])]
  refine wpAny_bind (wpAny_pure (wpAny_bind ?_))
  refine bind_loop (L := s.heap.objs.size) (env := { scope, locals := s.heap.objs.size, globals := glb, cells := [], qual, func := none, code, frame := some s.heap.objs.size, builtins := bi }) rfl hk _ (fun _ _ => rfl) [(".0", it)] { s with heap := s.heap.push { cls := .type "frame", data := .dict #[] } } (fun _ => none) ⟨Heap.Ns.new .., ⟨_, Heap.get?_push_size _ rfl, rfl⟩⟩ (fun x hx => by rcases List.mem_singleton.mp hx with rfl; exact h0) fun h' F' S' => ?_
  refine wpAny_pure (h h' _ F' (fun b o e => (S'.2 b (Nat.ne_of_lt (Heap.lt_size e))).trans (Heap.get?_push_of_some _ e)) ?_)
  rw [S'.1, Heap.size_push]
end
section
variable {W : Wd} {A : Around} {C I l : Addr} {vs : List Value} {ts : List Str} {f : Str → Str} {cenv : Env} {x : Str} {D a g : Nat}
theorem gen_fresh {elt iter : Expr} {px : Pos} {scope : Scope} {pos : Pos} {s : Shared} (hh : A.handled = none) (hfr : A.frames.isSome = true) (Ev : GEnv W C I cenv x) (hts : StrsAre vs ts) (hCI : C ≠ I) (hCl : C ≠ l) (hIl : I ≠ l)
    (room : Room (A.in1.over (.compLoop (.GeneratorExp elt [⟨.Name x px, iter, [], 0⟩] scope pos) 0 (.ref I) .none cenv) []) D) (he : GElt W D cenv x elt ts f) (hgen : s.heap.IsGen a g)
    (hg : s.gens[g]? = some (.fresh (.compStart (.GeneratorExp elt [⟨.Name x px, iter, [], 0⟩] scope pos) 0 (.ref I) .none cenv))) : GAt W A C I l vs ts f a g 0 s := by
  refine ⟨hgen, _, hg, fun s'' P => ⟨rfl, ?_⟩⟩
  have loop := gen_seg (A := A.in1) (iter := iter) (px := px) (scope := scope) (pos := pos) (f := f) hh hfr Ev hts hCI hCl hIl room he ts.length 0 s'' s'' rfl (Nat.zero_le _) P (.refl _)
  show Seg _ A.in1 _ _ _ s'' _ ((compStart (.GeneratorExp elt [⟨.Name x px, iter, [], 0⟩] scope pos) 0 (.ref I) .none cenv).onRaise (leaving cenv)) [] s''
  unfold compStart
  rw [Sem.onRaise_eq_wrap]
  show Seg _ A.in1 _ _ _ s'' _ ((ask >>= _).wrap _ _ _ _) [] s''
  refine seg_bind_wrap (wpAny_askSetting ?_)
  split
  · exact seg_again rfl loop
  · refine seg_bind_wrap (wpAny_rule ?_)
    show Seg _ A.in1 _ _ _ s'' _ ((standAt iter.pos >>= _).wrap _ _ _ _) [] s''
    exact seg_bind_wrap (wpAny_standAt (seg_bind_wrap (wpAny_pyIter_listiter P.it (seg_again rfl loop))))
end
end G4
section G5
theorem strsOf_map : ∀ ts : List Str, strsOf (ts.map .s) = some ts
  | [] => rfl
  | t :: r => by show (strsOf (r.map .s)).map (t :: ·) = _; rw [strsOf_map r]; rfl
theorem no_size (h : Heap) : h.get? h.objs.size = none := by
  cases q : h.get? h.objs.size with
  | none => rfl
  | some o => exact absurd (Heap.lt_size q) (Nat.lt_irrefl _)
structure GNew (c : Fc) (V : View) (ts : List Str) (f : Str → Str) (s s1 s' : Shared) (C I l a g : Nat) (vs : List Value) : Prop where
  st : St c.N c.muts s s1
  inv1 : Inv c V s1
  inv : Inv c V s'
  keep : Keep c.N [] s1.heap s'.heap
  os : s'.os = s1.os
  gz : g = s1.gens.size
  gens : ∃ gs, s'.gens = s1.gens.push gs
  nC : s1.heap.get? C = none
  nI : s1.heap.get? I = none
  aC : a ≠ C
  aI : a ≠ I
  low : c.N ≤ C
  at_ : GAt c.toWd c.A.in1.in1 C I l vs ts f a g 0 s'
  pre : GPre c.toWd c.A.in1.in1.in1 C I l vs 0 s'
theorem gen_make {c : Fc} {V : View} {elt iter : Expr} {x : Str} {px pos : Pos} {scope : Scope} {ts : List Str} {f : Str → Str} {D : Nat} {cc P : Addr} {s : Shared} {Q E : Value → Shared → Prop}
    (ok : c.Ok) (room : Room c.A (D + 2)) (hco : scope.isCoroutine = false) (hclos : closureFor scope c.env = pure []) (hcell : ∀ x ∈ scope.names, x.2 ≠ .cell) (h0 : scope.names.lookup (".0" : Str) = some .local) (hx : scope.names.lookup x = some .local) (hkind : scope.kind = .function)
    (hcode : c.env.code = .ref cc) (hK : codeAtB c.K cc P = true) (nl : P ≠ lamTab) (hbf : runPure c.K 30 (builtinsFor mainGlobals builtinsNs) = some builtinsNs)
    (hit : EvOk c iter V (.l (ts.map .s)) V) (hs : ∀ x, genFold iter c.env x = pure x) (he : ∀ cenv : Env, cenv.scope = scope → GElt c.toWd D cenv x elt ts f) (Iv : Inv c V s)
    (h : ∀ s1 s' C I l a g vs, GNew c V ts f s s1 s' C I l a g vs → Q (.ref a) s') :
    wpAny c.M c.A (eval (.GeneratorExp elt [⟨.Name x px, iter, [], 0⟩] scope pos) c.env) Q E s := by
  rw [eval_GeneratorExp1 _ _ _ _ _ _ _ hco, hclos]
  refine wpAny_bind (hit s _ _ Iv fun s1 v I1 t1 i1 => ?_)
  obtain ⟨l, ob, arr, n, si, hl⟩ := i1.il
  have hv := si.v
  subst hv
  have hts : StrsAre arr.toList ts := strsOf_is (strsOf_map ts) hl
  refine wpAny_bind (wpAny_standAt (wpAny_bind (wpAny_of_eq (hs _) (wpAny_bind (wpAny_holding (wpAny_pyIter_list si.isList ?_))))))
  have k2 : ∀ b o, s1.heap.get? b = some o → (s1.heap.push { cls := .type "list_iterator", data := .fields #[.ref l, .int 0 0] }).get? b = some o := fun b o e => Heap.get?_push_of_some _ e
  have it2 : (s1.heap.push { cls := .type "list_iterator", data := .fields #[.ref l, .int 0 0] }).IsListIter s1.heap.objs.size l 0 := ⟨_, Heap.get?_push_size _ rfl, rfl, rfl⟩
  have nI := no_size s1.heap
  have NI : c.N ≤ s1.heap.objs.size := by
    obtain ⟨o, e⟩ := I1.live c.L (ok.fx.mem _ (.head _))
    exact Nat.le_of_lt (Nat.lt_of_le_of_lt (ok.fx.low _ (ok.fx.mem _ (.head _))) (Heap.lt_size e))
  generalize s1.heap.objs.size = I at *
  generalize s1.heap.push { cls := .type "list_iterator", data := .fields #[.ref l, .int 0 0] } = h2 at *
  have K2 : Keep c.N [] s1.heap h2 := .of_all k2
  have B2 : Base c.K c.N h2 := I1.base.keep (T := []) ok.lowK (fun _ h => nomatch h) ok.lo K2
  refine wpAny_bind (wpAny_enterFrame (s := { s1 with heap := h2 }) B2.lim (by have := room.depth; omega) ?_)
  refine wpAny_bind (wpAny_pure ?_)
  refine wpAny_bind (wp_gcode (W := c.toWd) (s := { s1 with heap := h2 }) hcode ok.lowK B2 hK nl fun code h3 tk3 K3' => ?_)
  have K3 : Keep c.N [] s1.heap h3 := K2.trans K3'
  have B3 : Base c.K c.N h3 := I1.base.keep (T := []) ok.lowK (fun _ h => nomatch h) ok.lo K3
  have it3 : h3.IsListIter I l 0 := keep_iter K3' (fun z => nomatch z) it2
  have ls3 : h3.IsList l arr.toList.toArray := keep_list K3 (fun z => nomatch z) si.isList
  refine wpAny_bind ?_
  rw [ok.glb, ok.blt]
  refine runPure_sound (s := { s1 with heap := h3, toks := tk3 }) B3.k hbf ?_
  refine wpAny_bind (wp_genEnv (s := { s1 with heap := h3, toks := tk3 }) hcell h0 hkind fun h4 m F4 k4 sz4 => ?_)
  have nC := no_size h3
  have NC : I < h3.objs.size := by obtain ⟨o, e, _⟩ := it3; exact Heap.lt_size e
  have lC : l < h3.objs.size := by obtain ⟨o, e, _⟩ := ls3; exact Heap.lt_size e
  generalize hC : h3.objs.size = C at *
  simp only [newGenerator, newFields]
  refine wpAny_bind (wpAny_newGen (wpAny_bind (wpAny_mkText (wpAny_bind (wpAny_mkText (wpAny_newObj_type ?_ (by size_fits)))))))
  have a4 := no_size h4
  have eh : ({ s1 with heap := h4, toks := tk3 + 1 } : Shared).heap.objs.size = h4.objs.size := rfl
  have K5 : ∀ o, Keep c.N [] s1.heap (h4.push o) := fun o => K3.trans ((Keep.of_all k4).trans (Keep.of_all fun b o' e => Heap.get?_push_of_some _ e))
  have F5 : ∀ o, FrameAt (h4.push o) C m := fun o => (Keep.of_all (N := c.N) (T := []) fun b o' e => Heap.get?_push_of_some _ e).frame (fun z => nomatch z) F4
  have it5 : ∀ o, (h4.push o).IsListIter I l 0 := fun o => by obtain ⟨oi, e, r⟩ := it3; exact ⟨oi, Heap.get?_push_of_some _ (k4 _ _ e), r⟩
  have ls5 : ∀ o, (h4.push o).IsList l arr.toList.toArray := fun o => by obtain ⟨oi, e, r⟩ := ls3; exact ⟨oi, Heap.get?_push_of_some _ (k4 _ _ e), r⟩
  have inv5 : ∀ o tk gs, Inv c V { s1 with heap := h4.push o, toks := tk, gens := gs } := fun o tk gs => let J := I1.keep (s' := { s1 with heap := h4.push o }) ok (K5 o); ⟨J.rep, J.base, J.live, J.frs⟩
  have ng : ∀ C, h3.get? C = none → s1.heap.get? C = none := fun C e => by
    cases q : s1.heap.get? C with
    | none => rfl
    | some o => obtain ⟨o', e'⟩ := K3.there C o q; rw [e] at e'; cases e'
  have P5 : ∀ o tk gs, GPre c.toWd c.A.in1.in1.in1 C I l arr.toList 0 { s1 with heap := h4.push o, toks := tk, gens := gs } := fun o tk gs => ⟨(inv5 o tk gs).base, (inv5 o tk gs).frs, it5 o, ls5 o, m, F5 o⟩
  have haC : h4.objs.size ≠ C := by show h4.objs.size ≠ C; rw [sz4]; omega
  have haI : h4.objs.size ≠ I := by show h4.objs.size ≠ I; rw [sz4]; omega
  refine h s1 _ C I l h4.objs.size s1.gens.size arr.toList ⟨t1, I1, inv5 _ _ _, K5 _, rfl, rfl, ⟨_, rfl⟩, ng C nC, nI, haC, haI, Nat.le_trans NI (Nat.le_of_lt NC), ?_, P5 _ _ _⟩
  refine gen_fresh (D := D) (iter := iter) (px := px) (scope := scope) (pos := pos) room.handled ?_ ⟨rfl, rfl, hkind, rfl, rfl, hco, by exact hx, ok.lowK, ok.lo, Nat.le_trans NI (Nat.le_of_lt NC), NI⟩ hts (Nat.ne_of_gt NC) (Nat.ne_of_gt lC) ?_ ?_ (he _ rfl) ⟨_, _, _, Heap.get?_push_size _ rfl, rfl, rfl, rfl⟩ (Array.getElem?_push_size ..)
  · obtain ⟨fs, e, _⟩ := I1.frs
    show c.A.frames.isSome = true
    rw [e]; rfl
  · rintro rfl
    obtain ⟨o, e, _⟩ := si.isList
    rw [nI] at e; cases e
  · refine ⟨?_, ?_, room.handled⟩
    · have := room.depth
      show c.A.depth + 0 + 1 + D < _
      omega
    · have := room.units
      show c.A.units + 1 + 1 + 1 + 0 + 3 + 8 * D + 120 < _
      omega
theorem GNew.after {c : Fc} {V : View} {ts : List Str} {f : Str → Str} {s s1 s' s2 : Shared} {C I l a g : Nat} {vs : List Value} (ok : c.Ok) (n : GNew c V ts f s s1 s' C I l a g vs) (hg : s2.gens[g]? = some .finished) (st : CStep c.toWd C I g s' s2) : Inv c V s2 ∧ St c.N c.muts s s2 := by
  have ne : ∀ {b : Addr} {o : Obj}, s1.heap.get? b = some o → b ≠ C ∧ b ≠ I := fun {b o} e => ⟨fun q => (by subst q; rw [n.nC] at e; cases e), fun q => (by subst q; rw [n.nI] at e; cases e)⟩
  have k : Keep c.N [] s1.heap s2.heap := ⟨fun b o _ e => (n.keep.off b o (fun z => nomatch z) e).trans fun o' e' => st.off b o' (ne e).1 (ne e).2 e', fun b o e => let ⟨o', e'⟩ := n.keep.there b o e; st.there b o' (ne e).2 e'⟩
  obtain ⟨gs, eg⟩ := n.gens
  have gz := n.gz
  subst gz
  have gn : Gn s1.gens s2.gens := by
    have sz : s'.gens.size = s1.gens.size + 1 := by rw [eg, Array.size_push]
    have o' : ∀ k, k < s1.gens.size → s'.gens[k]? = s1.gens[k]? := fun k hk => by rw [eg, Array.getElem?_push, if_neg (Nat.ne_of_lt hk)]
    refine ⟨by have := st.gens.size; omega, fun k hk => (st.gens.old k (Nat.ne_of_lt hk) (by omega)).trans (o' k hk), fun hb y hy => ?_⟩
    obtain ⟨k, e⟩ := Array.mem_iff_getElem?.mp hy
    by_cases q : k = s1.gens.size
    · subst q; rw [hg] at e; cases e; rfl
    · refine st.gens.bare (fun k y q e => ?_) k y q e
      rw [eg, Array.getElem?_push, if_neg q] at e
      exact hb y (Array.mem_iff_getElem?.mpr ⟨k, e⟩)
  exact ⟨n.inv1.keep ok k, n.st.trans ⟨k.all, gn, st.os.trans n.os⟩⟩
theorem base_const {k : Const} {n : Nat} {p : Pos} {name : Str} {env : Env} {t : Sem Value} : attributeBase (.Constant k n p) name env t = t := rfl
theorem ev_join {c : Fc} {V : View} {elt iter : Expr} {sep x : Str} {kc : Nat} {pc apos cp px pos : Pos} {scope : Scope} {ts : List Str} {f : Str → Str} {D : Nat} {cc P : Addr}
    (ok : c.Ok) (room : Room c.A (D + 2)) (hco : scope.isCoroutine = false) (hclos : closureFor scope c.env = pure []) (hcell : ∀ x ∈ scope.names, x.2 ≠ .cell) (h0 : scope.names.lookup (".0" : Str) = some .local) (hx : scope.names.lookup x = some .local) (hkind : scope.kind = .function)
    (hcode : c.env.code = .ref cc) (hK : codeAtB c.K cc P = true) (nl : P ≠ lamTab) (hbf : runPure c.K 30 (builtinsFor mainGlobals builtinsNs) = some builtinsNs)
    (hit : EvOk c iter V (.l (ts.map .s)) V) (hs : ∀ x, genFold iter c.env x = pure x) (he : ∀ cenv : Env, cenv.scope = scope → GElt c.toWd D cenv x elt ts f)
    (hl : (apos.endLine == cp.line) = true) (hz : ts.length ≤ 1000000) (hj : JoinOk sep (ts.map f) = true) :
    EvOk c (.Call (.Attribute (.Constant (.str sep) kc pc) "join" apos) [.GeneratorExp elt [⟨.Name x px, iter, [], 0⟩] scope pos] [] cp) V (.s (Txt.join sep (ts.map f))) V := by
  intro s Q E I h
  rw [mc_eq (args := [_]) base_const hl rfl (show 1 < 30 by decide)]
  refine wpAny_bind (wpAny_Constant_str (wpAny_bind (wpAny_standAt (wpAny_bind (wpAny_holding (GM.join ?_))))))
  refine callWith_of (P := c.K.In) (by rw [starEach_any (by rfl)]; rfl) (keeps_ok (K := c.K) (f := .builtin "str.join") rfl) (evalArgs_any (starEach_any (by rfl)) ?_)
  rw [starEach_cons (by rfl)]
  refine Calls.spliced_cons (gen_make ok room hco hclos hcell h0 hx hkind hcode hK nl hbf hit hs he (I.toks _) fun s1 s' C It l a g vs n => Calls.spliced_nil ⟨n.inv.base.k, ?_⟩)
  refine join_call (W := c.toWd) (A := c.A) room.handled (by have := room.depth; omega) ok.lowK ok.lo n.aC n.aI hz n.low n.at_ n.pre hj fun s2 t' k B F hg st => ?_
  obtain ⟨i2, st2⟩ := n.after ok hg st
  exact h _ _ (i2.toks k) (St.trans (.toks _) (st2.trans (.toks k))) (.s _ _)
end G5
section oJ1
noncomputable abbrev joFd (w : Wn) : FuncData := fdOf (WW w).K 751
theorem jo_def (w : Wn) : defOk (WW w).K 751 ["split_command"] = true := by kernel_rfl
theorem jo_bind (w : Wn) (v : Value) : runPure (WW w).K 30 (bindArgs (joFd w) ⟨[v], []⟩) = some ([("split_command", v)] : List (Str × Value)) := by kernel_rfl
theorem keep_qu (w : Wn) : keepOk (WW w).K (.ref 759) = true := by kernel_rfl
structure JoX where
  sep : Str
  kc : Nat
  pc : Pos
  apos : Pos
  elt : Expr
  x : Str
  px : Pos
  y : Str
  py : Pos
  scope : Scope
  pos : Pos
  cp : Pos
  p3 : Pos
noncomputable def JoX.ex (r : JoX) : Expr := .Call (.Attribute (.Constant (.str r.sep) r.kc r.pc) "join" r.apos) [.GeneratorExp r.elt [⟨.Name r.x r.px, .Name r.y r.py, [], 0⟩] r.scope r.pos] [] r.cp
noncomputable def JoX.st (r : JoX) : Stmt := .Return (some r.ex) r.p3
set_option backward.match.sparseCases false in
noncomputable def joX : Stmt → Option JoX
  | .Return (some (.Call (.Attribute (.Constant (.str sep) kc pc) _ apos) [.GeneratorExp elt [⟨.Name x px, .Name y py, _, _⟩] scope pos] _ cp)) p3 => some ⟨sep, kc, pc, apos, elt, x, px, y, py, scope, pos, cp, p3⟩
  | _ => none
noncomputable def JoX.good (r : JoX) : Bool := r.sep == (" " : Str) && r.x == ("arg" : Str) && r.y == ("split_command" : Str) && (r.apos.endLine == r.cp.line) && !r.scope.isCoroutine && r.scope.names.all (fun x => x.2 != .cell && x.2 != .free) && (r.scope.names.lookup (".0" : Str) == some .local) && (r.scope.names.lookup ("arg" : Str) == some .local) && r.scope.kind == .function
theorem jo_some (w : Wn) : (((bodyOf (joFd w)).head?).bind joX).isSome = true := by kernel_rfl
noncomputable def joG (w : Wn) : JoX := (((bodyOf (joFd w)).head?).bind joX).get (jo_some w)
theorem jo_shape (w : Wn) : bodyOf (joFd w) = [(joG w).st] := by kernel_rfl
theorem jo_good (w : Wn) : (joG w).good = true := by kernel_rfl
theorem jo_name (w : Wn) : (joFd w).scope.names.lookup ("split_command" : Str) = some NameKind.local := by kernel_rfl
theorem jo_code (w : Wn) : (joFd w).code = .ref 750 := by kernel_rfl
theorem jo_tab (w : Wn) : codeAtB (WW w).K 750 746 = true := by kernel_rfl
theorem jo_blt (w : Wn) : runPure (WW w).K 30 (builtinsFor mainGlobals builtinsNs) = some builtinsNs := by kernel_rfl
noncomputable abbrev QuIs (w : Wn) (t : Str) : Prop := Spec (WW w) 2 (.ref 759) [.s t] [] (.s (tx (quoteL t.cps.toList))) []
noncomputable abbrev elCfg {w : Wn} {t : Str} (h : QuIs w t) : Cfg := mkCfg (joG w).scope tabs (POrc.one (keep_qu w) h) (.none _ _)
theorem el_run (w : Wn) (t : Str) (h : QuIs w t) : pf (elCfg h) 20 (joG w).elt ⟨[("arg", .s t)], []⟩ = some (.s (tx (quoteL t.cps.toList)), [], [Rf ([PV.s t], ([] : List PO))]) := by kernel_rfl
set_option backward.match.sparseCases false in
noncomputable def glueL : List (List Nat) → List Nat
  | [] => []
  | [a] => a
  | a :: b :: r => a ++ 32 :: glueL (b :: r)
noncomputable def joinL (ws : List (List Nat)) : List Nat := glueL (ws.map quoteL)
theorem glue_join : ∀ ls : List (List Nat), Str.join " " (ls.map tx) = tx (glueL ls)
  | [] => rfl
  | [a] => rfl
  | a :: b :: r => by
    have ih := glue_join (b :: r)
    show tx a ++ " " ++ Str.join " " ((b :: r).map tx) = _
    rw [ih]
    apply Str.ext'; apply Array.toList_inj.mp
    rw [Str.cps_append, Str.cps_append, Array.toList_append, Array.toList_append]
    show a ++ [32] ++ glueL (b :: r) = a ++ 32 :: glueL (b :: r)
    simp
theorem txt_join (ls : List (List Nat)) : Txt.join " " (ls.map tx) = tx (glueL ls) := (StrLaws.glued_eq_join _ _).trans (glue_join ls)
theorem room_in1 {A : Around} {D : Nat} (r : Room A (D + 1)) : Room A.in1 D := ⟨rdD r.depth, ru (k := 1) (by decide) r.units, r.handled⟩
theorem spec_join (w : Wn) (ws : List (List Nat)) (hq : ∀ l ∈ ws, l.length ≤ 1000000) (hz : ((ws.map quoteL).map List.length).sum + ws.length ≤ 1000000) : SpecP (WW w) 6 (.ref 751) [.l (ws.map fun l => .s (tx l))] (.s (tx (joinL ws))) := by
  intro objs
  have g := jo_good w
  unfold JoX.good at g
  simp only [Bool.and_eq_true, Bool.not_eq_true', beq_iff_eq] at g
  obtain ⟨⟨⟨⟨⟨⟨⟨⟨g1, g2⟩, g3⟩, g4⟩, g5⟩, g6⟩, g7⟩, g8⟩, g9⟩ := g
  refine SpecC.spec (spec_bodyC (D := 5) (fl := .ret (.s (tx (joinL ws)))) (loc := [("split_command", .l (ws.map fun l => .s (tx l)))]) (jo_def w) rfl (fun T ρ s vs B hT ia => ?_) fun c ok e room hs hc => ⟨⟨[("split_command", .l (ws.map fun l => .s (tx l)))], objs⟩, ?_, rfl⟩)
  · obtain ⟨v, rfl, i⟩ := isL1 ia
    exact ⟨_, jo_bind w v, rfl, .cons i .nil⟩
  · rw [jo_shape w]
    refine ex_stop (sx_return ?_) (fun q => nomatch q)
    have em : (ws.map tx).map (fun t : Str => tx (quoteL t.cps.toList)) = (ws.map quoteL).map tx := by
      rw [List.map_map, List.map_map]; rfl
    have er : Txt.join (joG w).sep ((ws.map tx).map fun t : Str => tx (quoteL t.cps.toList)) = tx (joinL ws) := by rw [g1, em]; exact txt_join _
    rw [← er]
    have gx : (joG w).scope.names.lookup (joG w).x = some NameKind.local := by rw [g2]; exact g8
    have hn : ∀ x ∈ (joG w).scope.names, x.2 ≠ .cell ∧ x.2 ≠ .free := fun x hx => by
      have := List.all_eq_true.mp g6 x hx
      obtain ⟨a, b⟩ := Bool.and_eq_true_iff.mp this
      exact ⟨fun q => (by rw [q] at a; cases a), fun q => (by rw [q] at b; cases b)⟩
    have hK : codeAtB c.toWd.K 750 746 = true := by rw [e]; exact jo_tab w
    have hbf : runPure c.toWd.K 30 (builtinsFor mainGlobals builtinsNs) = some builtinsNs := by rw [e]; exact jo_blt w
    refine ev_join (D := 3) (P := 746) ok room.of_in1 g5 (closureFor_none fun x hx => (hn x hx).2) (fun x hx => (hn x hx).1) g7 gx g9 (hc.trans (jo_code w)) hK (by decide) hbf ?_ (fun _ => rfl) (fun cenv hcs => ?_) (by rw [g4]; exact beq_self_eq_true _) ?_ ?_
    · refine ev_local ok ?_ ?_ ?_
      · unfold Env.kindOf; rw [hs, g3]; exact jo_name w
      · rw [g3]; decide
      · rw [g3]
        show some (PV.l (ws.map fun l => .s (tx l))) = some (.l ((ws.map tx).map .s))
        rw [List.map_map]; rfl
    · rw [e]
      intro c' ok' e' room' hs' t ht
      obtain ⟨l, hl, rfl⟩ := List.mem_map.mp ht
      rw [g2]
      have sq : QuIs w (tx l) := spec_quote w l (hq l hl) []
      have gk := mkCfg_ok (D := 2) (t := tabs) (po := POrc.one (keep_qu w) sq) (eo := .none _ _) ok' e' (room_in1 room') (by decide) (hs'.trans hcs) (tabs_ok w)
      exact (pf_ok ok' gk 20).1 _ _ _ _ _ (el_run w (tx l) sq) ⟨rfl, trivial⟩
    · rw [List.length_map]; omega
    · rw [g1, em]
      refine joinOk_of_weight ?_ (by decide)
      rw [List.map_map, List.length_map, List.length_map]
      have : (ws.map quoteL).map ((fun x : Str => x.length) ∘ tx) = (ws.map quoteL).map List.length := List.map_congr_left fun a _ => tx_len a
      rw [this]; omega
end oJ1
section F1
section
variable {prog : Program} {w : World} {A : Around} {E : Value → Shared → Prop} {s : Shared}
theorem iter_list {l : Addr} {items : Array Value} {Q : Value → Shared → Prop} (hl : s.heap.IsList l items) (hQ : Q (.ref s.heap.objs.size) { s with heap := s.heap.push { cls := .type "list_iterator", data := .fields #[.ref l, .int 0 0] } }) : wpAny (model prog w) A (call (.builtin "iter") [.ref l]) Q E s := by
  refine PySem.Calls.call_function_entry (by decide +kernel) (by decide +kernel) kdk_entry_iter (kdk_args_iter _) ?_
  unfold Builtin.«iter»
  refine wpAny_bind (m := someArgs "iter" 1 2 _) (wpAny_of_eq (a := [Value.ref l]) (by first | rfl | kernel_rfl!) ?_)
  show wpAny _ _ (pyIter (.ref l) >>= _) _ _ _
  refine wpAny_bind (wpAny_pyIter_list hl ?_)
  exact wpAny_pure ⟨_, rfl, hQ⟩
end
noncomputable def NoFr (A : Around) (It : Addr) : Prop := ∀ fs, A.frames = some fs → ∀ env ∈ fs, env.frame ≠ some It
theorem Frs.off {N : Nat} {A : Around} {h h' : Heap} {d : Addr} (x : Frs N A h) (k : Heap.ExtBut d h h') (hd : NoFr A d) : Frs N A h' := by
  obtain ⟨fs, e, hf⟩ := x
  refine ⟨fs, e, fun env he => ?_⟩
  obtain ⟨h1, L, m, h2, h3, h4⟩ := hf env he
  have hL : L ≠ d := fun q => hd fs e env he (q ▸ h2)
  obtain ⟨o, ho, hc⟩ := h4.cls
  exact ⟨h1, L, m, h2, h3, h4.ns.at' fun o e => k _ o hL e, o, k _ o hL ho, hc⟩
theorem Base.off {K : Frag} {N : Nat} {h h' : Heap} {d : Addr} (lk : lowK K N = true) (lo : builtinsNs < N ∧ cStatics < N) (B : Base K N h) (hd : N ≤ d) (xb : Heap.ExtBut d h h') : Base K N h' := by
  have ne : ∀ {a}, a < N → a ≠ d := fun h => Nat.ne_of_lt (Nat.lt_of_lt_of_le h hd)
  refine ⟨fun a o e => xb a o (ne (lowK_at lk e).1) (B.k a o e), ?_, B.lim.extBut xb (ne lo.2), fun a o q e t => ?_⟩
  · obtain ⟨mb, h1, h2⟩ := B.b
    exact ⟨mb, h1.at' fun o e => xb _ o (ne lo.1) e, h2⟩
  · obtain ⟨ps, h1, h2⟩ := B.tab a o q e t
    exact ⟨ps, xb _ _ (ne ((lowK_at lk e).2.2 q t).1) h1, h2⟩
theorem NoFr.of {N : Nat} {A : Around} {h : Heap} {d : Addr} (x : Frs N A h) (hc : ∃ o, h.get? d = some o ∧ o.cls ≠ .type "frame") : NoFr A d := fun fs e env he q => by
  obtain ⟨fs', e', hf⟩ := x
  rw [e] at e'; cases e'
  obtain ⟨_, L, m, h2, _, h4⟩ := hf env he
  rw [q] at h2; cases h2
  obtain ⟨o, ho, hc1⟩ := h4.cls
  obtain ⟨o', ho', hc2⟩ := hc
  rw [ho] at ho'; cases ho'; exact hc2 hc1
noncomputable abbrev lessA (T : List Addr) (d : Addr) : List Addr := T.filter (· != d)
theorem mem_lessA {T : List Addr} {b d : Addr} : b ∈ lessA T d ↔ b ∈ T ∧ b ≠ d := by simp [lessA]
section
variable {T : List Addr} {ρ : List (Addr × Addr)} {h h' : Heap} {d : Addr}
theorem to_off (hT : d ∈ T) (xb : Heap.ExtBut d h h') : IsTo T (lessA T d) ρ ρ h h' := ⟨fun a ob n e _ _ => ⟨fun z => n (mem_lessA.mp z).1, xb a ob (fun q => n (q ▸ hT)) e⟩, fun _ _ _ e => e⟩
theorem ObjAt.off {k : Nat} {po : PO} (hT : d ∈ T) (xb : Heap.ExtBut d h h') (hm : d ∉ ρ.map (·.2)) (x : ObjAt T ρ h k po) : ObjAt (lessA T d) ρ h' k po := x.to (to_off hT xb) fun a x o e eo _ _ => xb x o (fun q => hm (List.mem_map.mpr ⟨(a, x), List.mem_of_getElem? e, q⟩)) eo
end
theorem Inv.off {c : Fc} {V : View} {s : Shared} {T : List Addr} {ρ : List (Addr × Addr)} {h' : Heap} {d : Addr} (ok : (c.at T ρ).Ok) (I : Inv (c.at T ρ) V s) (hT : d ∈ T) (hm : d ∉ Mine.muts c.L ρ) (hf : NoFr c.A d) (xb : Heap.ExtBut d s.heap h') : Inv (c.at (lessA T d) ρ) V { s with heap := h' } := by
  obtain ⟨m, fr, lo⟩ := I.rep.ns
  have hL : c.L ≠ d := fun q => hm (q ▸ .head _)
  obtain ⟨o, ho, hc⟩ := fr.cls
  have t := to_off (ρ := ρ) hT xb
  refine ⟨⟨⟨m, ⟨fr.ns.at' fun o e => xb _ o hL e, o, xb _ o hL ho, hc⟩, fun x p e => let ⟨v, e1, e2⟩ := lo x p e; ⟨v, e1, e2.to t⟩⟩, fun j po e => (I.rep.objs j po e).off hT xb fun z => hm (.tail _ z)⟩, I.base.off ok.lowK ok.lo (ok.fx.low _ hT) xb, fun b hb => ?_, I.frs.off xb hf⟩
  obtain ⟨b1, b2⟩ := mem_lessA.mp hb
  obtain ⟨o, e⟩ := I.live b b1
  exact ⟨o, xb b o b2 e⟩
theorem Grow.off {c : Fc} {s : Shared} {T : List Addr} {ρ : List (Addr × Addr)} {d : Addr} (g : Grow c s T ρ) (hm : d ∉ Mine.muts c.L ρ) (hd : d ∉ c.T) : Grow c s (lessA T d) ρ :=
  ⟨⟨⟨fun b hb => mem_lessA.mpr ⟨g.ok.fx.mem b hb, fun q => hm (q ▸ hb)⟩, g.ok.fx.nodup, fun b hb => g.ok.fx.low b (mem_lessA.mp hb).1⟩, g.ok.kind, g.ok.loc, g.ok.glb, g.ok.blt, g.ok.lowK, g.ok.lo⟩, fun b hb => mem_lessA.mpr ⟨g.sub b hb, fun q => hd (q ▸ hb)⟩, fun b hb => g.fresh b (mem_lessA.mp hb).1, g.ext⟩
theorem St.off {N : Nat} {F : List Addr} {s0 s : Shared} {h' : Heap} {d : Addr} (x : St N F s0 s) (n : s0.heap.get? d = none) (xb : Heap.ExtBut d s.heap h') : St N F s0 { s with heap := h' } := by
  have ne : ∀ {b o}, s0.heap.get? b = some o → b ≠ d := fun e q => by rw [q, n] at e; cases e
  refine ⟨⟨fun b o nb e => (x.keep.off b o nb e).trans fun o' e' => by rw [xb b o' (ne e) e']; exact .same, fun b o e => ?_⟩, x.gens, x.os⟩
  obtain ⟨o', e'⟩ := x.keep.there b o e
  exact ⟨o', xb b o' (ne e) e'⟩
theorem Inv.touch {c : Fc} {V : View} {s : Shared} {h' : Heap} {It : Addr} (ok : c.Ok) (I : Inv c V s) (hT : It ∈ c.T) (hm : It ∉ c.muts) (hc : ∃ o, s.heap.get? It = some o ∧ o.cls ≠ .type "frame") (k : Keep c.N [It] s.heap h') : Inv c V { s with heap := h' } := by
  have kT : Keep c.N c.T s.heap h' := k.sub fun b hb => by rcases List.mem_singleton.mp hb with rfl; exact hT
  have nm : ∀ {b}, b ∈ c.muts → b ∉ [It] := fun hb z => hm (by rcases List.mem_singleton.mp z with rfl; exact hb)
  obtain ⟨m, fr, lo⟩ := I.rep.ns
  refine ⟨⟨⟨m, k.frame (nm (.head _)) fr, fun x p e => let ⟨v, e1, e2⟩ := lo x p e; ⟨v, e1, e2.keep kT⟩⟩, fun j po e => (I.rep.objs j po e).keep k (fun a d e => nm (.tail _ (List.mem_map.mpr ⟨(a, d), List.mem_of_getElem? e, rfl⟩))) (fun b hb => by rcases List.mem_singleton.mp hb with rfl; exact hT) kT⟩, I.base.keep (T := [It]) ok.lowK (fun b hb => by rcases List.mem_singleton.mp hb with rfl; exact ok.fx.low _ hT) ok.lo k, fun b hb => let ⟨o, e⟩ := I.live b hb; k.there b o e, I.frs.one k (.inl hc)⟩
theorem St.touch {N : Nat} {F : List Addr} {s0 s : Shared} {h' : Heap} {It : Addr} (x : St N F s0 s) (n : s0.heap.get? It = none) (k : Keep N [It] s.heap h') : St N F s0 { s with heap := h' } := by
  have ne : ∀ {b o}, s0.heap.get? b = some o → b ∉ [It] := fun e z => by rcases List.mem_singleton.mp z with rfl; rw [n] at e; cases e
  exact ⟨⟨fun b o nb e => (x.keep.off b o nb e).trans fun o' e' => k.off b o' (ne e) e', fun b o e => let ⟨o', e'⟩ := x.keep.there b o e; k.there b o' e'⟩, x.gens, x.os⟩
inductive ForG (c : Fc) (x : Str) (body : List Stmt) : List PV → View → View → Prop
  | stop {V : View} : ForG c x body [] V V
  | step {p : PV} {ps : List PV} {V V2 V3 : View} {f : PF} : (∀ T ρ, (c.at T ρ).Ok → ExG (c.at T ρ) body { V with loc := put x p V.loc } f V2) → (f = .next ∨ f = .cont) → ForG c x body ps V2 V3 → ForG c x body (p :: ps) V V3
structure ForAt (c : Fc) (x : Str) (body : List Stmt) (It l : Addr) (vs : List Value) (ps : List PV) (V' : View) (s0 : Shared) (i : Nat) (T : List Addr) (ρ : List (Addr × Addr)) (V : View) (s : Shared) : Prop where
  g : Grow c s0 T ρ
  hT : It ∈ T
  hm : It ∉ muts c.L ρ
  inv : Inv (c.at T ρ) V s
  len : V.objs.length = ρ.length
  st : St c.N c.muts s0 s
  it : s.heap.IsListIter It l i
  ls : s.heap.IsList l vs.toArray
  lT : l ∉ T
  iv : IsL T ρ s.heap (ps.drop i) (vs.drop i)
  F : ForG c x body (ps.drop i) V V'
theorem for_mut {c : Fc} {It : Addr} {T T' : List Addr} {ρ ρ' : List (Addr × Addr)} {s2 : Shared} {o : Obj} (hm : It ∉ muts c.L ρ) (e : s2.heap.get? It = some o) (g' : Grow (c.at T ρ) s2 T' ρ') : It ∉ muts c.L ρ' := by
  intro z
  obtain ⟨ν, eρ, hν⟩ := g'.ext
  have eρ : ρ' = ρ ++ ν := eρ
  subst eρ
  rcases List.mem_cons.mp z with z | z
  · exact hm (z ▸ .head _)
  · rw [List.map_append] at z
    rcases List.mem_append.mp z with z | z
    · exact hm (.tail _ z)
    · obtain ⟨p, hp, q⟩ := List.mem_map.mp z
      have := hν p hp
      rw [q, e] at this; exact no this.symm
theorem for_iv {c : Fc} {T T' : List Addr} {ρ ρ' : List (Addr × Addr)} {s2 s3 : Shared} {ps : List PV} {vs : List Value} (ok : (c.at T ρ).Ok) (g' : Grow (c.at T ρ) s2 T' ρ') (t3 : St c.N (c.at T ρ).muts s2 s3) (iv2 : IsL T ρ s2.heap ps vs) : IsL T' ρ' s3.heap ps vs := by
  obtain ⟨ν, eρ, _⟩ := g'.ext
  have eρ : ρ' = ρ ++ ν := eρ
  subst eρ
  exact (IsL.grow g'.fresh iv2).keep (t3.keep.sub fun b hb => g'.sub b (ok.fx.mem b hb))
theorem for_nx {c : Fc} {x : Str} {body : List Stmt} {It l : Addr} {vs : List Value} {ps : List PV} {V2 V' : View} {s0 s2 s3 : Shared} {i : Nat} {T T' : List Addr} {ρ ρ' : List (Addr × Addr)} (g : Grow c s0 T ρ) (hT : It ∈ T) (hm : It ∉ muts c.L ρ) (lT : l ∉ T) (st2 : St c.N c.muts s0 s2) (it2 : s2.heap.IsListIter It l (i + 1)) (ls2 : s2.heap.IsList l vs.toArray) (iv2 : IsL T ρ s2.heap (ps.drop (i + 1)) (vs.drop (i + 1)))
    (g' : Grow (c.at T ρ) s2 T' ρ') (l3 : V2.objs.length = ρ'.length) (I3 : Inv (c.at T' ρ') V2 s3) (t3 : St c.N (c.at T ρ).muts s2 s3) (hr : ForG c x body (ps.drop (i + 1)) V2 V') : ForAt c x body It l vs ps V' s0 (i + 1) T' ρ' V2 s3 := by
  refine ⟨g.trans st2.keep g', g'.sub _ hT, ?_, I3, l3, g.keep st2 t3, keep_iter t3.keep hm it2, keep_list t3.keep (fun z => lT (g.ok.fx.mem _ z)) ls2, fun z => ?_, for_iv g.ok g' t3 iv2, hr⟩
  · obtain ⟨o, e, _⟩ := it2
    exact for_mut hm e g'
  · rcases g'.fresh l z with q | q
    · exact lT q
    · obtain ⟨o, e, _⟩ := ls2; rw [q] at e; exact no e
theorem for_end {c : Fc} {x : Str} {body : List Stmt} {It l : Addr} {vs : List Value} {ps : List PV} {V V' : View} {s0 s : Shared} {T : List Addr} {ρ : List (Addr × Addr)} {h' : Heap} (nI : s0.heap.get? It = none) (nT : It ∉ c.T) (a : ForAt c x body It l vs ps V' s0 vs.length T ρ V s) (hF : NoFr c.A It) (xb : Heap.ExtBut It s.heap h') : Grow c s0 (lessA T It) ρ ∧ V'.objs.length = ρ.length ∧ Inv (c.at (lessA T It) ρ) V' { s with heap := h' } ∧ St c.N c.muts s0 { s with heap := h' } := by
  have ei : ps.drop vs.length = [] := by
    have h := a.iv
    rw [List.drop_length] at h
    cases q : ps.drop vs.length with
    | nil => rfl
    | cons => rw [q] at h; cases h
  have hf := a.F
  rw [ei] at hf
  cases hf
  exact ⟨a.g.off a.hm nT, a.len, a.inv.off a.g.ok a.hT a.hm hF xb, a.st.off nI xb⟩
theorem drop_at {α : Type} {vs : List α} {i : Nat} {v : α} (hv : vs[i]? = some v) : vs.drop i = v :: vs.drop (i + 1) := by
  obtain ⟨h, rfl⟩ := List.getElem?_eq_some_iff.mp hv
  exact List.drop_eq_getElem_cons h
theorem for_cons {c : Fc} {x : Str} {body : List Stmt} {V V' : View} {ps : List PV} {vs : List Value} {T : List Addr} {ρ : List (Addr × Addr)} {h : Heap} {i : Nat} {v : Value} (hv : vs[i]? = some v) (iv : IsL T ρ h (ps.drop i) (vs.drop i)) (F : ForG c x body (ps.drop i) V V') : ∃ p f V2, Is T ρ h p v ∧ IsL T ρ h (ps.drop (i + 1)) (vs.drop (i + 1)) ∧ (∀ T ρ, (c.at T ρ).Ok → ExG (c.at T ρ) body { V with loc := put x p V.loc } f V2) ∧ (f = .next ∨ f = .cont) ∧ ForG c x body (ps.drop (i + 1)) V2 V' := by
  rw [drop_at hv] at iv
  have ep : (ps.drop i).tail = ps.drop (i + 1) := List.tail_drop
  rw [← ep]
  generalize ps.drop i = q at iv F
  cases iv with
  | cons i1 ir =>
    cases F with
    | step hb hf hr => exact ⟨_, _, _, i1, ir, hb, hf, hr⟩
theorem for_goI {c : Fc} {x : Str} {px : Pos} {body : List Stmt} {It l : Addr} {vs : List Value} {ps : List PV} {V V' : View} {s0 s : Shared} {i0 : Nat} {T : List Addr} {ρ : List (Addr × Addr)} {Q : Flow → Shared → Prop} {E : Value → Shared → Prop} (hh : c.A.handled = none) (hk : c.env.kindOf x = some .local) (nI : s0.heap.get? It = none) (nT : It ∉ c.T) (hi0 : i0 ≤ vs.length)
    (a : ForAt c x body It l vs ps V' s0 i0 T ρ V s) (k : ∀ s' T ρ, Grow c s0 T ρ → V'.objs.length = ρ.length → Inv (c.at T ρ) V' s' → St c.N c.muts s0 s' → Q .next s') :
    codeAny c.M c.A (.forLoop (.Name x px) (.ref It) body [] c.env) (fun r s' => match r with | .ok f => Q f s' | .error e => cameBackBy c.M c.A c.env E e s') s := by
  refine codeAny_forLoop (fun n s' => ∃ i T ρ V, n = vs.length + 1 - i ∧ i ≤ vs.length ∧ ForAt c x body It l vs ps V' s0 i T ρ V s') ?_ (vs.length + 1 - i0) ⟨i0, T, ρ, V, rfl, hi0, a⟩
  rintro n s' ⟨i, T, ρ, V, rfl, hi, a⟩
  have nL : l ≠ It := fun q => a.lT (q ▸ a.hT)
  have cI : ∃ o, s'.heap.get? It = some o ∧ o.cls ≠ .type "frame" := by obtain ⟨o, e, c, _⟩ := a.it; exact ⟨o, e, by rw [c]; decide⟩
  cases hv : vs[i]? with
  | none =>
    cases (Nat.le_antisymm hi (List.getElem?_eq_none_iff.mp hv) : i = vs.length)
    refine wpAny_pyNext_list_end hh a.it a.ls (by rw [List.getElem?_toArray]; exact hv) fun h' xb => wpAny_execs_nil ?_
    obtain ⟨z1, z2, z3, z4⟩ := for_end nI nT a (.of a.inv.frs cI) xb
    exact k _ _ ρ z1 z2 z3 z4
  | some v =>
    refine wpAny_pyNext_list_item a.it a.ls (by rw [List.getElem?_toArray]; exact hv) fun h1 it1 sb1 => ?_
    have kI : Keep c.N [It] s'.heap h1 := by obtain ⟨o1, e1, _⟩ := it1; exact .sameBut sb1 e1 (.head _)
    have I1 := a.inv.touch (c := c.at T ρ) a.g.ok a.hT a.hm cI kI
    have iv1 := a.iv.keep (kI.sub fun b hb => by rcases List.mem_singleton.mp hb with rfl; exact a.hT)
    have ls1 : h1.IsList l vs.toArray := keep_list kI (fun z => nL (List.mem_singleton.mp z)) a.ls
    obtain ⟨p, f, V2, i1, ir, hb, hf, hr⟩ := for_cons hv iv1 a.F
    refine wpAny_assign_Name (store_name (c := c.at T ρ) a.g.ok hk I1 i1 fun s2 I2 t2 => ?_)
    refine hb T ρ a.g.ok s2 _ _ I2 a.len fun s3 fl T' ρ' g' l3 I3 t3 hfl => ?_
    have nx := for_nx a.g a.hT a.hm a.lT (a.g.keep (a.st.touch nI kI) t2) (keep_iter t2.keep a.hm it1) (keep_list t2.keep (fun z => a.lT (a.g.ok.fx.mem _ z)) ls1) (ir.keep (t2.keep.sub a.g.ok.fx.mem)) g' l3 I3 t3 hr
    have hlt : i < vs.length := (List.getElem?_eq_some_iff.mp hv).1
    rcases hf with rfl | rfl <;> (cases hfl; exact ⟨_, ndec hlt, i + 1, T', ρ', _, rfl, hlt, nx⟩)
end F1
section F2
noncomputable abbrev itObj (l : Addr) : Obj := { cls := .type "list_iterator", data := .fields #[.ref l, .int 0 0] }
structure ItNew (c : Fc) (V : View) (s : Shared) (It l : Addr) (s' : Shared) : Prop where
  no : s.heap.get? It = none
  g : Grow c s (It :: c.T) c.ρ
  hm : It ∉ c.muts
  inv : Inv (c.at (It :: c.T) c.ρ) V s'
  st : St c.N c.muts s s'
  it : s'.heap.IsListIter It l 0
  keep : Keep c.N [] s.heap s'.heap
theorem it_new {c : Fc} {V : View} {s : Shared} {l : Addr} (ok : c.Ok) (I : Inv c V s) : ItNew c V s s.heap.objs.size l { s with heap := s.heap.push (itObj l) } := by
  have no : s.heap.get? s.heap.objs.size = none := by
    cases q : s.heap.get? s.heap.objs.size with
    | none => rfl
    | some o => exact absurd (Heap.lt_size q) (Nat.lt_irrefl _)
  have NI : c.N ≤ s.heap.objs.size := by
    obtain ⟨o, e⟩ := I.live c.L (ok.fx.mem _ (.head _))
    exact Nat.le_of_lt (Nat.lt_of_le_of_lt (ok.fx.low _ (ok.fx.mem _ (.head _))) (Heap.lt_size e))
  have up : ∀ b o, s.heap.get? b = some o → (s.heap.push (itObj l)).get? b = some o := fun b o e => Heap.get?_push_of_some _ e
  have at_ : (s.heap.push (itObj l)).get? s.heap.objs.size = some (itObj l) := Heap.get?_push_size _ rfl
  generalize s.heap.objs.size = It at *
  generalize s.heap.push (itObj l) = h' at *
  have k : Keep c.N [] s.heap h' := .of_all up
  have nT : It ∉ c.T := fun z => by obtain ⟨o, e⟩ := I.live _ z; rw [no] at e; cases e
  have ok' : (c.at (It :: c.T) c.ρ).Ok := ⟨⟨fun b hb => .tail _ (ok.fx.mem b hb), ok.fx.nodup, fun b hb => by rcases List.mem_cons.mp hb with rfl | hb; exact NI; exact ok.fx.low b hb⟩, ok.kind, ok.loc, ok.glb, ok.blt, ok.lowK, ok.lo⟩
  have fr : ∀ b ∈ It :: c.T, b ∈ c.T ∨ s.heap.get? b = none := fun b hb => by rcases List.mem_cons.mp hb with rfl | hb; exact .inr no; exact .inl hb
  obtain ⟨m, hn, lo⟩ := I.rep.ns
  have kT : Keep c.N (It :: c.T) s.heap h' := k.all
  refine ⟨no, ⟨ok', fun b hb => .tail _ hb, fr, [], by simp, fun _ h => nomatch h⟩, fun z => nT (ok.fx.mem _ z), ⟨⟨⟨m, k.frame (fun z => nomatch z) hn, fun x p e => let ⟨v, e1, e2⟩ := lo x p e; ⟨v, e1, (e2.more no).keep kT⟩⟩, fun j po e => ((I.rep.objs j po e).more no).keep k (fun _ _ _ z => nomatch z) (fun _ z => nomatch z) kT⟩, I.base.keep (T := []) ok.lowK (fun _ h => nomatch h) ok.lo k, fun b hb => ?_, I.frs.keep k⟩, ⟨k.all, .refl _, rfl⟩, ⟨_, at_, rfl, rfl⟩, k⟩
  rcases List.mem_cons.mp hb with rfl | hb
  · exact ⟨_, at_⟩
  · obtain ⟨o, e⟩ := I.live b hb; exact ⟨o, up b o e⟩
end F2
section A3
set_option backward.match.sparseCases false in
noncomputable def alt {α : Type} : Option α → Option α → Option α
  | some z, _ => some z
  | .none, y => y
theorem alt_is {α : Type} {x y : Option α} {z : α} (h : alt x y = some z) : x = some z ∨ y = some z := by
  cases x with
  | some v => exact .inl h
  | none => exact .inr h
noncomputable def Orc.or {W : Wd} {D : Nat} (a b : Orc W D) : Orc W D := ⟨fun f ps objs => alt (a.fn f ps objs) (b.fn f ps objs), fun f ps objs r objs' P h => by
  rcases alt_is h with e | e
  · exact a.ok _ _ _ _ _ _ e
  · exact b.ok _ _ _ _ _ _ e⟩
set_option backward.match.sparseCases false in
noncomputable def pushF (ps : List PV) : List PO → Option (List PO)
  | a :: s :: .dq pb :: r => (match ps with
    | [.o 0, .s t] => some (a :: s :: .dq (.s t :: pb) :: r)
    | _ => none)
  | _ => none
noncomputable def Orc.push (w : Wn) (D : Nat) : Orc (WW w) D := ⟨fun f ps objs => if f = .ref 671 then (pushF ps objs).map fun o => (.v .none, o, [Spec (WW w) D (.ref 671) ps objs (.v .none) o]) else .none, fun f ps objs r objs' P e => by
  obtain ⟨g, e⟩ := oi e
  subst g
  obtain ⟨o, _, e⟩ := map_some e
  cases e
  exact ⟨keep_pk w, fun hP => hP.1⟩⟩
noncomputable abbrev lsFd (w : Wn) : FuncData := fdOf (WW w).K 782
theorem ls_def (w : Wn) : defOk (WW w).K 782 ["lexer", "word"] = true := by kernel_rfl
theorem ls_bind (w : Wn) (v u : Value) : runPure (WW w).K 30 (bindArgs (lsFd w) ⟨[v, u], []⟩) = some ([("lexer", v), ("word", u)] : List (Str × Value)) := by kernel_rfl
noncomputable def hd1 (x : Str) : Bool := (Txt.slice x none (some 1)).cps.toList == ("-" : Str).cps.toList
noncomputable def invS (x : Str) : Str := if hd1 x = true then Txt.slice x (some 1) none else ("-" : Str) ++ x
noncomputable abbrev PkIs (w : Wn) (cm wc : Str) (st : PV) (ln : Int) (L : List Nat) (n : Nat) (pb : List PV) (x : Str) (rest : List PO) : Prop := Spec (WW w) 5 (.ref 671) [.o 0, .s x] (lexQ cm wc st ln L n pb rest) (.v .none) (lexQ cm wc st ln L n (.s x :: pb) rest)
section
variable (w : Wn) (cm wc : Str) (st st' : PV) (ln ln' : Int) (L : List Nat) (n n' : Nat) (pb pb' : List PV) (x t : Str) (rest : List PO)
noncomputable abbrev lsCfg {w : Wn} {cm wc : Str} {st st' : PV} {ln ln' : Int} {L : List Nat} {n n' : Nat} {pb pb' : List PV} {rest : List PO} {r : PV} (h : GqIs w cm wc st st' ln ln' L n n' pb pb' r rest) : Cfg := mkCfg (W := WW w) (D := 5) (lsFd w).scope tabs (blt _ _) ((Orc.one (keep_gt w) h).or (Orc.push w 5))
theorem lsN_run (h : GqIs w cm wc st st' ln ln' L n n' pb pb' (.v .none) rest) : xr (lsCfg h) 60 (bodyOf (lsFd w)) [] ⟨[("lexer", .o 0), ("word", .s x)], lexQ cm wc st ln L n pb rest⟩ =
  some (.ret (.o 0), lexQ cm wc st' ln' L n' (.s x :: pb') rest, [Rf ([PV.o 0], lexQ cm wc st ln L n pb rest), PkIs w cm wc st' ln' L n' pb' x rest]) := by kernel_rfl
theorem lsT_run (h : GqIs w cm wc st st' ln ln' L n n' pb pb' (.s t) rest) : xr (lsCfg h) 60 (bodyOf (lsFd w)) [none, some true] ⟨[("lexer", .o 0), ("word", .s x)], lexQ cm wc st ln L n pb rest⟩ =
  some (.ret (.o 0), lexQ cm wc st' ln' L n' (.s x :: .s t :: pb') rest, [Rf ([PV.o 0], lexQ cm wc st ln L n pb rest), x.length ≤ sizeLine, hd1 x = true → AllP [x.length ≤ sizeLine], hd1 x = false → AllP [(("-" : Str) ++ x).length ≤ sizeLine], (!(t.cps.toList == (invS x).cps.toList)) = true, PkIs w cm wc st' ln' L n' pb' t rest, PkIs w cm wc st' ln' L n' (.s t :: pb') x rest]) := by kernel_rfl
theorem lsF_run (h : GqIs w cm wc st st' ln ln' L n n' pb pb' (.s t) rest) : xr (lsCfg h) 60 (bodyOf (lsFd w)) [none, some false] ⟨[("lexer", .o 0), ("word", .s x)], lexQ cm wc st ln L n pb rest⟩ =
  some (.ret (.o 0), lexQ cm wc st' ln' L n' pb' rest, [Rf ([PV.o 0], lexQ cm wc st ln L n pb rest), x.length ≤ sizeLine, hd1 x = true → AllP [x.length ≤ sizeLine], hd1 x = false → AllP [(("-" : Str) ++ x).length ≤ sizeLine], (!(t.cps.toList == (invS x).cps.toList)) = false]) := by kernel_rfl
end
end A3
section A4
theorem pick_all (r : List Nat) : (List.range r.length).filterMap (fun k => r[k]?) = r := by
  induction r with
  | nil => rfl
  | cons c r ih =>
    rw [List.length_cons, List.range_succ_eq_map, List.filterMap_cons, List.filterMap_map]
    show c :: List.filterMap (fun k => r[k]?) _ = _
    rw [ih]
theorem ix_hd (n : Nat) : Builtin.Str.strSliceIndices none (some 1) 1 (n + 1) = [0] := by
  unfold Builtin.Str.strSliceIndices sliceRange
  have e1 : ((n + 1 : Nat) : Int) = (n : Int) + 1 := rfl
  simp only [e1, show (1 : Int) > 0 by decide, if_true, show ¬ ((1 : Int) < 0) by decide, if_false]
  have a : max 0 (min (1 : Int) ((n : Int) + 1)) = 1 := by omega
  rw [a]; rfl
theorem ix_tl (n : Nat) : Builtin.Str.strSliceIndices (some 1) none 1 (n + 1) = (List.range n).map (· + 1) := by
  unfold Builtin.Str.strSliceIndices sliceRange
  have e1 : ((n + 1 : Nat) : Int) = (n : Int) + 1 := rfl
  simp only [e1, show (1 : Int) > 0 by decide, if_true, show ¬ ((1 : Int) < 0) by decide, if_false]
  have a : max 0 (min (1 : Int) ((n : Int) + 1)) = 1 := by omega
  rw [a]
  have c : (if (1 : Int) < (n : Int) + 1 then ((n : Int) + 1 - 1 + 1 - 1) / 1 else 0).toNat = n := by
    by_cases h : (1 : Int) < (n : Int) + 1
    · rw [if_pos h]; omega
    · rw [if_neg h]; omega
  rw [c]
  apply List.map_congr_left
  intro k _
  omega
theorem slice_hd (t : List Nat) : Txt.slice (tx t) none (some 1) = tx (t.take 1) := by
  cases t with
  | nil => rfl
  | cons c r =>
    unfold Txt.slice
    have e : (tx (c :: r)).length = r.length + 1 := by rw [tx_len]; rfl
    rw [e, ix_hd]
    by_cases h : ((1 : Int) == 1 && ([0] : List Nat).length == r.length + 1) = true
    · rw [if_pos h]
      have h := beq_iff_eq.mp (Bool.and_eq_true_iff.mp h).2
      have hr : r = [] := List.length_eq_zero_iff.mp (Nat.succ.inj h).symm
      rw [hr]; rfl
    · rw [if_neg h]; rfl
theorem slice_tl (t : List Nat) : Txt.slice (tx t) (some 1) none = tx (t.drop 1) := by
  cases t with
  | nil => rfl
  | cons c r =>
    unfold Txt.slice
    have e : (tx (c :: r)).length = r.length + 1 := by rw [tx_len]; rfl
    rw [e, ix_tl, List.length_map, List.length_range]
    have h : ¬ ((1 : Int) == 1 && r.length == r.length + 1) = true := fun h => absurd (beq_iff_eq.mp (Bool.and_eq_true_iff.mp h).2) (by omega)
    rw [if_neg h, List.filterMap_map]
    show tx ((List.range r.length).filterMap fun k => (tx (c :: r)).cps[k + 1]?) = _
    have : (fun k => (tx (c :: r)).cps[k + 1]?) = fun k => r[k]? := by
      funext k
      show (c :: r).toArray[k + 1]? = _
      simp
    rw [this, pick_all]; rfl
theorem tx_min (t : List Nat) : ("-" : Str) ++ tx t = tx (45 :: t) := by
  show (⟨_⟩ : Str) = ⟨_⟩
  congr 1
  apply Array.ext'
  rw [Array.toList_append]; rfl
set_option backward.match.sparseCases false in
noncomputable def invW : List Nat → List Nat
  | [] => [45]
  | c :: r => if c = 45 then r else 45 :: c :: r
theorem invS_tx (t : List Nat) : invS (tx t) = tx (invW t) := by
  unfold invS hd1
  rw [slice_hd, slice_tl]
  cases t with
  | nil => rfl
  | cons c r =>
    show (if ([c] == [45]) = true then tx r else _) = tx (if c = 45 then r else 45 :: c :: r)
    by_cases h : c = 45
    · rw [if_pos h, if_pos (by rw [h]; rfl)]
    · rw [if_neg h, if_neg (by simpa using h), tx_min]
set_option backward.match.sparseCases false in
noncomputable def stepW (x : List Nat) : List (List Nat) → List (List Nat)
  | [] => [x]
  | t :: r => if t = invW x then r else x :: t :: r
theorem str_eq (t u : List Nat) : ((tx t).cps.toList == (tx u).cps.toList) = decide (t = u) := by
  show (t == u) = _
  by_cases h : t = u
  · rw [h, decide_eq_true rfl]; exact beq_self_eq_true u
  · rw [decide_eq_false h]; exact beq_eq_false_iff_ne.mpr h
section
variable {w : Wn} {cm wc : Str} {L : List Nat} {rest objs : List PO} {b : Nat} {ts : List (List Nat)} {x : List Nat}
theorem ls_of {r : PV} {objs' : List PO} {cfg : POrc (WW w) 5} {eo : Orc (WW w) 5} {ds : Ds} {P : List Prop} (run : xr (mkCfg (W := WW w) (D := 5) (lsFd w).scope tabs cfg eo) 60 (bodyOf (lsFd w)) ds ⟨[("lexer", .o 0), ("word", .s (tx x))], objs⟩ = some (.ret r, objs', P)) (hP : AllP P) : Spec (WW w) 6 (.ref 782) [.o 0, .s (tx x)] objs r objs' :=
  SpecC.spec <| spec_run (by decide) (fl := .ret r) (ls_def w) (tabs_ok w) rfl (fun T ρ s vs B hT ia => by obtain ⟨v, u, rfl, i, j⟩ := isL2 ia; exact ⟨_, ls_bind w v u, rfl, .cons i (.cons j .nil)⟩) run hP
theorem spec_step (hz : L.length ≤ sizeLine) (hcm : (39 ∉ cm.cps.toList) ∧ (34 ∉ cm.cps.toList)) (hwc : 39 ∉ wc.cps.toList) (hb : b + 2 ≤ 1000000) (hx : x.length ≤ 1000000) (h : LexAt cm wc L rest b objs ts) :
    ∃ objs', Spec (WW w) 6 (.ref 782) [.o 0, .s (tx x)] objs (.o 0) objs' ∧ LexAt cm wc L rest (b + 2) objs' (stepW x ts) := by
  have hb0 : b ≤ 1000000 := Nat.le_trans (Nat.le_add_right b 2) hb
  cases ts with
  | nil =>
    obtain ⟨objs1, sp, h1⟩ := la_get0 (w := w) hz hcm hwc h
    obtain ⟨st, ln, n, pb, ts, rfl, _⟩ := h
    have h2 := h1
    obtain ⟨st', ln', n', pb', ts', rfl, e, hp, hs⟩ := h1
    obtain ⟨rfl, rfl⟩ := List.append_eq_nil_iff.mp e.symm
    have pk : PkIs w cm wc st' ln' L n' (sT []) (tx x) rest := (spec_pk (Nat.zero_le _)).le (by decide)
    exact ⟨_, ls_of (lsN_run w cm wc st st' ln ln' L n n' (sT pb) (sT []) (tx x) rest sp) ⟨rfl, pk, trivial⟩, st', ln', n', [x], [], rfl, rfl, by show 1 ≤ b + 2; omega, hs⟩
  | cons t r =>
    obtain ⟨objs1, sp, h1⟩ := la_get (w := w) hz hcm hwc hb0 h
    obtain ⟨st, ln, n, pb, ts, rfl, _⟩ := h
    obtain ⟨st', ln', n', pb', ts', rfl, e, hp, hs⟩ := h1
    have hx1 : (tx x).length ≤ sizeLine := by rw [tx_len]; exact Nat.le_trans hx sizeM
    have hx2 : (("-" : Str) ++ tx x).length ≤ sizeLine := by
      rw [tx_min, tx_len, sizeLine_eq, List.length_cons]; omega
    have hq : (!((tx t).cps.toList == (invS (tx x)).cps.toList)) = !decide (t = invW x) := by rw [invS_tx, str_eq]
    rw [show stepW x (t :: r) = if t = invW x then r else x :: t :: r from rfl]
    by_cases g : t = invW x
    · rw [if_pos g]
      exact ⟨_, ls_of (lsF_run w cm wc st st' ln ln' L n n' (sT pb) (sT pb') (tx x) (tx t) rest sp) ⟨rfl, hx1, fun _ => ⟨hx1, trivial⟩, fun _ => ⟨hx2, trivial⟩, by rw [hq, decide_eq_true g]; rfl, trivial⟩, st', ln', n', pb', ts', rfl, e, Nat.le_trans hp (Nat.le_add_right _ _), hs⟩
    · rw [if_neg g]
      have hp1 : (sT pb').length ≤ 1000000 := by rw [List.length_map]; exact Nat.le_trans hp hb0
      have hp2 : (PV.s (tx t) :: sT pb').length ≤ 1000000 := by rw [List.length_cons, List.length_map]; omega
      have k1 : PkIs w cm wc st' ln' L n' (sT pb') (tx t) rest := (spec_pk hp1).le (by decide)
      have k2 : PkIs w cm wc st' ln' L n' (.s (tx t) :: sT pb') (tx x) rest := (spec_pk hp2).le (by decide)
      exact ⟨_, ls_of (lsT_run w cm wc st st' ln ln' L n n' (sT pb) (sT pb') (tx x) (tx t) rest sp) ⟨rfl, hx1, fun _ => ⟨hx1, trivial⟩, fun _ => ⟨hx2, trivial⟩, by rw [hq, decide_eq_false g]; rfl, k1, k2, trivial⟩, st', ln', n', x :: t :: pb', ts', rfl, by rw [e]; rfl, by show pb'.length + 1 + 1 ≤ b + 2; omega, hs⟩
end
end A4
section A5
noncomputable abbrev ruFd (w : Wn) : FuncData := fdOf (WW w).K 768
structure RedX where
  it : Str
  p0 : Pos
  g : Str
  p1 : Pos
  y : Str
  p2 : Pos
  p3 : Pos
  p4 : Pos
  s2 : Stmt
  x : Str
  px : Pos
  z : Str
  pz : Pos
  fb : List Stmt
  pp : Pos
  v : Str
  pv : Pos
  p5 : Pos
noncomputable def RedX.st1 (r : RedX) : Stmt := .Assign [.Name r.it r.p0] (.Call (.Name r.g r.p1) [.Name r.y r.p2] [] r.p3) r.p4
noncomputable def RedX.st3 (r : RedX) : Stmt := .For (.Name r.x r.px) (.Name r.z r.pz) r.fb [] r.pp
noncomputable def RedX.st4 (r : RedX) : Stmt := .Return (some (.Name r.v r.pv)) r.p5
set_option backward.match.sparseCases false in
noncomputable def redX : List Stmt → Option RedX
  | [.Assign [.Name it p0] (.Call (.Name g p1) [.Name y p2] _ p3) p4, s2, .For (.Name x px) (.Name z pz) fb _ pp, .Return (some (.Name v pv)) p5] => some ⟨it, p0, g, p1, y, p2, p3, p4, s2, x, px, z, pz, fb, pp, v, pv, p5⟩
  | _ => none
theorem ru_some (w : Wn) : (redX (bodyOf (ruFd w))).isSome = true := by kernel_rfl
noncomputable def ruG (w : Wn) : RedX := (redX (bodyOf (ruFd w))).get (ru_some w)
theorem ru_shape (w : Wn) : bodyOf (ruFd w) = [(ruG w).st1, (ruG w).s2, (ruG w).st3, (ruG w).st4] := by kernel_rfl
noncomputable def RedX.good (r : RedX) : Bool := r.it == ("it" : Str) && r.g == ("iter" : Str) && r.y == ("sequence" : Str) && r.x == ("element" : Str) && r.z == ("it" : Str) && r.v == ("value" : Str)
theorem ru_good (w : Wn) : (ruG w).good = true := by kernel_rfl
theorem ru_names (w : Wn) : (["it", "element", "value"] : List Str).all (fun x => (ruFd w).scope.names.lookup x == some .local) = true := by kernel_rfl
theorem ru_def (w : Wn) : (isDef (WW w).K 768 (ruFd w) && hasBody (ruFd w)) = true := by kernel_rfl
theorem ru_bind (w : Wn) (f x a : Value) (S : Setting) (sz tk : Nat) : (runAl (WW w).K S 200 sz tk (bindArgs (ruFd w) ⟨[f, x, a], []⟩)).map (·.1) = some ([("function", f), ("sequence", x), ("initial", a)] : List (Str × Value)) := by kernel_rfl
theorem ru_nms (w : Wn) : (["function", "sequence", "initial"] : List Str).all (fun x => (ruFd w).scope.names.lookup x == some .local) = true := by kernel_rfl
theorem keep_iter0 (w : Wn) : keepOk (WW w).K (.builtin "iter") = true := by kernel_rfl
noncomputable abbrev ruY0 (fp q a : PV) : List (Str × PV) := [("function", fp), ("sequence", q), ("initial", a)]
noncomputable abbrev ruY1 (fp q a : PV) (It : Value) : List (Str × PV) := [("function", fp), ("sequence", q), ("initial", a), ("it", .v It)]
noncomputable abbrev ruY2 (fp q a : PV) (It : Value) (b : PV) : List (Str × PV) := [("function", fp), ("sequence", q), ("initial", a), ("it", .v It), ("value", b)]
noncomputable abbrev ruY3 (fp q a : PV) (It : Value) (b e : PV) : List (Str × PV) := [("function", fp), ("sequence", q), ("initial", a), ("it", .v It), ("value", b), ("element", e)]
noncomputable abbrev ruCfg0 (w : Wn) : Cfg := mkCfg (W := WW w) (D := 1) (ruFd w).scope tabs (blt _ _) (.none _ _)
noncomputable abbrev StIs (w : Wn) (D : Nat) (f : Value) (b e : PV) (o : List PO) (b' : PV) (o' : List PO) : Prop := Spec (WW w) D f [b, e] o b' o'
noncomputable abbrev ruCfg {w : Wn} {D : Nat} {f : Value} {b e b' : PV} {o o' : List PO} (hk : keepOk (WW w).K f = true) (h : StIs w D f b e o b' o') : Cfg := mkCfg (ruFd w).scope tabs (.none _ _) (Orc.one hk h)
noncomputable def TurnR (w : Wn) (f : Value) (q a : PV) (It : Value) : Prop := ∀ (D : Nat) (hk : keepOk (WW w).K f = true) (b e b' : PV) (o o' : List PO) (h : StIs w D f b e o b' o'), Mine.xs (ruCfg hk h) 30 (ruG w).fb [] ⟨ruY3 (.v f) q a It b e, o⟩ = some (.next, [], ⟨ruY3 (.v f) q a It b' e, o'⟩, [Rf ([b, e], o)])
theorem turn_782 (w : Wn) (q a : PV) (It : Value) : TurnR w (.ref 782) q a It := fun D hk b e b' o o' h => by kernel_rfl
theorem turn_789 (w : Wn) (q a : PV) (It : Value) : TurnR w (.ref 789) q a It := fun D hk b e b' o o' h => by kernel_rfl
theorem st_new {N : Nat} {F : List Addr} {s0 s s' : Shared} {It : Addr} (st : St N F s0 s) (t : St N (It :: F) s s') (n : s0.heap.get? It = none) : St N F s0 s' :=
  ⟨⟨fun b o nb e => (st.keep.off b o nb e).trans fun o' e' => t.keep.off b o' (fun z => by
      rcases List.mem_cons.mp z with rfl | z
      · rw [n] at e; cases e
      · exact nb z) e', fun b o e => let ⟨o', e'⟩ := st.keep.there b o e; t.keep.there b o' e'⟩, st.gens.trans t.gens, t.os.trans st.os⟩
theorem ruy_g (w : Wn) (fp q a : PV) (objs : List PO) : pe (ruCfg0 w) 5 (.Name (ruG w).g (ruG w).p1) ⟨ruY0 fp q a, objs⟩ = some (.v (.builtin "iter"), []) := by kernel_rfl
theorem ruy_as (w : Wn) (fp q a : PV) (objs : List PO) : pfs (ruCfg0 w) 10 [.Name (ruG w).y (ruG w).p2] ⟨ruY0 fp q a, objs⟩ = some ([q], objs, []) := by kernel_rfl
noncomputable def BindX (w : Wn) (ps : List PV) (fp q a : PV) : Prop := ∀ (T : List Addr) (ρ : List (Addr × Addr)) (s : Shared) (vs : List Value) (kvs : List (Str × Value)), Base (WW w).K (WW w).N s.heap → (∀ b ∈ T, (WW w).N ≤ b) → IsL T ρ s.heap ps vs → kvs.map (·.1) = ([] : List (Str × PV)).map (·.1) → IsL T ρ s.heap (([] : List (Str × PV)).map (·.2)) (kvs.map (·.2)) →
  ∀ (A : Around) (E : Value → Shared → Prop) (Q : List (Str × Value) → Shared → Prop), (∀ binds s1, BindOk (WW w) T ρ (ruFd w) (ruY0 fp q a) s binds s1 → Q binds s1) → wpAny (model (WW w).prog (WW w).w) A (bindArgs (ruFd w) ⟨vs, kvs⟩) Q E s
theorem bindX3 (w : Wn) {fp q a : PV} : BindX w [fp, q, a] fp q a := fun T ρ s vs kvs B hT ia ek ik => by
  cases kvs with
  | cons _ _ => cases ek
  | nil =>
    cases ia with
    | cons i1 ia => cases ia with
      | cons i2 ia => cases ia with
        | cons i3 ia =>
          cases ia
          exact bind_al B.k (ru_bind w _ _ _ _ _ _) (ru_nms w) (loc_binds rfl (.cons i1 (.cons i2 (.cons i3 .nil))) (nodupB_ok (l := ["function", "sequence", "initial"]) (by decide)))
noncomputable def ItemsX (q : PV) (xs : List PV) : Prop := ∀ (T : List Addr) (ρ : List (Addr × Addr)) (h : Heap) (v : Value), Is T ρ h q v → ∃ l ob arr n, SeqI T h "list" v l ob arr n ∧ IsL T ρ h xs arr.toList
noncomputable def StartX (w : Wn) (D : Nat) (fp q a v0 : PV) (xs : List PV) (i0 : Nat) (objs : List PO) : Prop := ∀ c : Fc, c.Ok → c.toWd = WW w → Room c.A.in1 D → c.env.scope = (ruFd w).scope → ∀ (It l : Addr) (vs : List Value) (s : Shared) (Q : Flow → Shared → Prop) (E : Value → Shared → Prop), (c.at (It :: c.T) c.ρ).Ok → It ∉ c.muts → l ∉ It :: c.T →
  Inv (c.at (It :: c.T) c.ρ) ⟨ruY1 fp q a (.ref It), objs⟩ s → s.heap.IsListIter It l 0 → s.heap.IsList l vs.toArray → IsL (It :: c.T) c.ρ s.heap xs vs →
  (∀ s', Inv (c.at (It :: c.T) c.ρ) ⟨ruY2 fp q a (.ref It) v0, objs⟩ s' → St c.N (It :: c.muts) s s' → s'.heap.IsListIter It l i0 → Q .next s') → wpAny c.M c.A (exec (ruG w).s2 c.env) Q E s
noncomputable def LoopX (w : Wn) (D : Nat) (fp q a v0 : PV) (xs : List PV) (objs : List PO) (r : PV) (objs' : List PO) : Prop := ∀ c : Fc, c.Ok → c.toWd = WW w → Room c.A.in1 D → c.env.scope = (ruFd w).scope → ∀ It : Value, ∃ L', ForG c "element" (ruG w).fb xs ⟨ruY2 fp q a It v0, objs⟩ ⟨L', objs'⟩ ∧ L'.lookup ("value" : Str) = some r
theorem spec_reduceX (w : Wn) {D : Nat} (hD : 1 ≤ D) {ps : List PV} {fp q a v0 r : PV} {xs : List PV} {i0 : Nat} {objs objs' : List PO} (hi0 : i0 ≤ xs.length)
    (hbind : BindX w ps fp q a) (hq : ItemsX q xs)
    (h2 : StartX w D fp q a v0 xs i0 objs) (h : LoopX w D fp q a v0 (xs.drop i0) objs r objs') : SpecK (WW w) (D + 1) (.ref 768) ps [] objs r objs' := by
  have g := ru_good w
  unfold RedX.good at g
  simp only [Bool.and_eq_true, beq_iff_eq] at g
  obtain ⟨⟨⟨⟨⟨g1, g2⟩, g3⟩, g4⟩, g5⟩, g6⟩ := g
  refine call_defB (fl := .ret r) (loc := ruY0 fp q a) (defIs_of (ru_def w)) hbind fun c ok e room hs => ⟨⟨[], objs'⟩, ?_, rfl⟩
  have kn : ∀ x ∈ (["it", "element", "value"] : List Str), c.env.kindOf x = some .local := fun x hx => by
    unfold Env.kindOf; rw [hs]; exact beq_iff_eq.mp (List.all_eq_true.mp (ru_names w) x hx)
  intro s Q E I hl k
  have gk := mkCfg_ok (D := 1) (t := tabs) (po := blt _ _) (eo := .none _ _) ok e (room.le hD) (by decide) hs (tabs_ok w)
  rw [show bodyOf (fdOf (WW w).K 768) = _ from ru_shape w]
  refine wpAny_execs_cons ?_
  unfold RedX.st1
  refine wpAny_Assign_Name (wpAny_Call_NameR ((pe_ok ok gk 5).e _ _ _ (ruy_g w fp q a objs) trivial s _ E I fun s1 v I1 t1 i1 => ?_)) (swaps_no rfl)
  cases i1
  refine callWith_ok (first := []) (by rw [e]; exact keep_iter0 w) rfl ((pf_ok ok gk 10).as _ _ _ _ _ (ruy_as w fp q a objs) trivial) I1 fun s2 vs I2 t2 i2 => ?_
  obtain ⟨v, rfl, j2⟩ := isL1 i2
  obtain ⟨l, ob, arr, n, si, il⟩ := hq _ _ _ _ j2
  have hv := si.v
  subst hv
  refine iter_list si.isList ?_
  have N := it_new (l := l) ok I2
  have ls3 := keep_list N.keep (fun z => nomatch z) si.isList
  have no0 : s.heap.get? s2.heap.objs.size = none := by
    cases q : s.heap.get? s2.heap.objs.size with
    | none => rfl
    | some o => obtain ⟨o', e'⟩ := (t1.trans t2).keep.there _ o q; rw [N.no] at e'; cases e'
  have lno : l ∉ s2.heap.objs.size :: c.T := fun z => by
    rcases List.mem_cons.mp z with z | z
    · obtain ⟨o, e, _⟩ := si.isList; rw [z, N.no] at e; cases e
    · exact si.out z
  have il3 := (il.more N.no).keep N.keep.all
  have nIt : s2.heap.objs.size ∉ c.T := fun z => by obtain ⟨o, e⟩ := I2.live _ z; rw [N.no] at e; exact no e
  generalize s2.heap.objs.size = It at *
  have ok3 := N.g.ok
  rw [g1]
  refine store_name (c := c.at (It :: c.T) c.ρ) (x := "it") (p := .v (.ref It)) ok3 (kn _ (.head _)) N.inv (.v _) fun s4 I4 t4 => ?_
  have it4 : s4.heap.IsListIter It l 0 := keep_iter t4.keep N.hm N.it
  have ml : l ∉ c.muts := fun z => si.out (ok.fx.mem _ z)
  have ls4 : s4.heap.IsList l arr.toList.toArray := keep_list t4.keep ml ls3
  have il4 := il3.keep (t4.keep.sub fun b hb => List.mem_cons_of_mem _ (ok.fx.mem b hb))
  refine wpAny_execs_cons (h2 c ok e room hs It l arr.toList s4 _ E ok3 N.hm lno I4 it4 ls4 il4 fun s5 I5 t5 it5 => ?_)
  obtain ⟨L', hF, hL⟩ := h c ok e room hs (.ref It)
  refine wpAny_execs_cons ?_
  unfold RedX.st3
  rw [g4, g5]
  have st2 : St c.N c.muts s s2 := t1.trans t2
  have st4 : St c.N c.muts s s4 := st2.trans (N.st.trans t4)
  have st5 : St c.N c.muts s s5 := st_new st4 t5 no0
  have mlI : l ∉ It :: c.muts := fun z => by
    rcases List.mem_cons.mp z with z | z
    · exact lno (z ▸ .head _)
    · exact ml z
  have ls5 : s5.heap.IsList l arr.toList.toArray := keep_list t5.keep mlI ls4
  have il5 := il4.keep (t5.keep.sub fun b hb => by
    rcases List.mem_cons.mp hb with rfl | hb
    · exact .head _
    · exact List.mem_cons_of_mem _ (ok.fx.mem b hb))
  refine wpAny_For (ev_local (c := c.at (It :: c.T) c.ρ) ok3 (kn _ (.head _)) (by decide) rfl s5 _ E I5 fun s6 v6 I6 t6 i6 => ?_) (fun _ => rfl)
  cases i6
  have it6 := keep_iter t6.keep N.hm it5
  have ls6 := keep_list t6.keep ml ls5
  refine wpAny_pyIter_listiter it6 ?_
  refine for_goI (c := c) (x := "element") (s0 := s) (vs := arr.toList) (ps := xs) (T := It :: c.T) (ρ := c.ρ) room.handled (kn _ (.tail _ (.head _))) no0 nIt (by rw [← il.length]; exact hi0) ⟨N.g.from st2.keep, .head _, N.hm, I6, hl, st5.trans t6, it6, ls6, lno, ?_, hF⟩ fun s7 T ρ g7 l7 I7 t7 => ?_
  · exact (il5.keep (t6.keep.sub fun b hb => List.mem_cons_of_mem _ (ok.fx.mem b hb))).drop i0
  · refine wpAny_execs_cons ?_
    unfold RedX.st4
    rw [g6]
    refine sx_return (c := c.at T ρ) (V := ⟨L', objs'⟩) (V1 := ⟨L', objs'⟩) (ev_local (c := c.at T ρ) g7.ok (kn _ (.tail _ (.tail _ (.head _)))) (by decide) hL) s7 _ E I7 fun s8 fl I8 t8 hf => ?_
    obtain ⟨v8, rfl, i8⟩ := hf
    obtain ⟨⟨⟨m, hn, _⟩, ho⟩, B, lv, F⟩ := I8
    exact k s8 _ T ρ g7 l7 ⟨⟨⟨m, hn, fun x p e => by cases e⟩, ho⟩, B, lv, F⟩ (g7.keep t7 t8) ⟨v8, rfl, i8⟩
theorem startX_of {w : Wn} {D : Nat} {fp q a v0 : PV} {xs : List PV} {objs : List PO} (h : ∀ c : Fc, c.Ok → c.toWd = WW w → Room c.A.in1 D → c.env.scope = (ruFd w).scope → ∀ It, SxOk c (ruG w).s2 ⟨ruY1 fp q a It, objs⟩ .next ⟨ruY2 fp q a It v0, objs⟩) : StartX w D fp q a v0 xs 0 objs :=
  fun c ok e room hs It l vs s Q E ok' hm hl I it ls il k => h (c.at (It :: c.T) c.ρ) ok' e room hs (.ref It) s _ E I fun s' fl I' t' hf => by
    cases hf
    exact k s' I' (t'.sub fun b hb => .tail _ hb) (keep_iter t'.keep hm it)
inductive StepsF (P : PV → List PO → PV → PV → List PO → Prop) : PV → List PO → List PV → PV → List PO → Prop
  | nil {b : PV} {o : List PO} : StepsF P b o [] b o
  | cons {b x b' r : PV} {xs : List PV} {o o1 o2 : List PO} : P b o x b' o1 → o1.length = o.length → StepsF P b' o1 xs r o2 → StepsF P b o (x :: xs) r o2
noncomputable def TurnX (w : Wn) (D : Nat) (fp q a : PV) (P : PV → List PO → PV → PV → List PO → Prop) : Prop := ∀ c : Fc, c.Ok → c.toWd = WW w → Room c.A.in1 D → c.env.scope = (ruFd w).scope → ∀ It b o x b' o', P b o x b' o' → ExOk c (ruG w).fb ⟨ruY3 fp q a It b x, o⟩ .next ⟨ruY3 fp q a It b' x, o'⟩
theorem loopX_of {w : Wn} {D : Nat} {fp q a v0 r : PV} {xs : List PV} {objs objs' : List PO} {P : PV → List PO → PV → PV → List PO → Prop} (turn : TurnX w D fp q a P) (h : StepsF P v0 objs xs r objs') : LoopX w D fp q a v0 xs objs r objs' := by
  intro c ok e room hs It
  have key : ∀ L, (L = ruY2 fp q a It v0 ∨ ∃ z, L = ruY3 fp q a It v0 z) → ∃ L', ForG c "element" (ruG w).fb xs ⟨L, objs⟩ ⟨L', objs'⟩ ∧ L'.lookup ("value" : Str) = some r := by
    induction h with
    | nil => intro L hL; refine ⟨L, .stop, ?_⟩; rcases hL with rfl | ⟨q, rfl⟩ <;> rfl
    | @cons b x b' r xs o o1 o2 hp hl _ ih =>
      intro L hL
      obtain ⟨L', h1, h2⟩ := ih (ruY3 fp q a It b' x) (.inr ⟨x, rfl⟩)
      have eL : put "element" x L = ruY3 fp q a It b x := by rcases hL with rfl | ⟨q, rfl⟩ <;> rfl
      refine ⟨L', .step (f := .next) (fun T ρ ok' => ?_) (.inl rfl) h1, h2⟩
      rw [show ({ (⟨L, o⟩ : View) with loc := put "element" x (⟨L, o⟩ : View).loc } : View) = ⟨ruY3 fp q a It b x, o⟩ from by show (⟨put "element" x L, o⟩ : View) = _; rw [eL]]
      exact (turn (c.at T ρ) ok' e room hs It b o x b' o1 hp).g ok' hl
  exact key _ (.inl rfl)
theorem turn_def {w : Wn} {D : Nat} (hD : 1 ≤ D) {f : Value} {q a : PV} (hk : keepOk (WW w).K f = true) (ht : ∀ It, TurnR w f q a It) : TurnX w D (.v f) q a fun b o x b' o' => Spec (WW w) D f [b, x] o b' o' := fun c ok e room hs It b o x b' o' hp =>
  (sx_sound ok (mkCfg_ok (t := tabs) (po := .none _ _) (eo := Orc.one hk hp) ok e room hD hs (tabs_ok w)) 30).2 _ _ _ _ _ _ _ (ht It D hk b x b' o o' hp) ⟨rfl, trivial⟩
end A5
section A6
set_option backward.match.sparseCases false in
noncomputable def PO.ltB (n : Nat) : PO → Bool
  | .inst _ att => PV.ltL n (att.map (·.2))
  | .list xs => PV.ltL n xs
  | .dq xs => PV.ltL n xs
  | .opaq _ => true
theorem Match.back {T : List Addr} {ρ ν : List (Addr × Addr)} {h : Heap} {r : List (Str × PV)} {es : List DictEntry} (m : Match T (ρ ++ ν) h r es) : PV.ltL ρ.length (r.map (·.2)) = true → Match T ρ h r es := by
  induction m with
  | nil => exact fun _ => .nil
  | cons a b _ c => exact fun q => .cons a (Is.back (fun _ h => h) b (Bool.and_eq_true_iff.mp q).1) (c (Bool.and_eq_true_iff.mp q).2)
theorem ObjAt.back {T : List Addr} {ρ ν : List (Addr × Addr)} {h : Heap} {k : Nat} {po : PO} (x : ObjAt T (ρ ++ ν) h k po) (hk : k < ρ.length) (hp : po.ltB ρ.length = true) : ObjAt T ρ h k po := by
  have dn : ∀ {q : Addr × Addr}, (ρ ++ ν)[k]? = some q → ρ[k]? = some q := fun e => by rwa [List.getElem?_append_left hk] at e
  cases po with
  | inst C att => obtain ⟨a, dx, es, n, e, na, ea, ed, m⟩ := x; exact ⟨a, dx, es, n, dn e, na, ea, ed, m.back hp⟩
  | list xs => obtain ⟨a, vs, n, e, ea, m⟩ := x; exact ⟨a, vs, n, dn e, ea, IsL.back (fun _ h => h) m hp⟩
  | dq xs => obtain ⟨a, st, vs, e, ea, m⟩ := x; exact ⟨a, st, vs, dn e, ea, IsL.back (fun _ h => h) m hp⟩
  | opaq ob => obtain ⟨a, e, r⟩ := x; exact ⟨a, dn e, r⟩
theorem to_sub {T T' : List Addr} {ρ : List (Addr × Addr)} {h : Heap} (hs : ∀ b ∈ T, b ∈ T') : IsTo T' T ρ ρ h h := ⟨fun a ob n e _ _ => ⟨fun z => n (hs _ z), e⟩, fun _ _ _ e => e⟩
theorem ObjAt.sub {T T' : List Addr} {ρ : List (Addr × Addr)} {h : Heap} {k : Nat} {po : PO} (hs : ∀ b ∈ T, b ∈ T') (x : ObjAt T' ρ h k po) : ObjAt T ρ h k po := x.to (to_sub hs) fun _ _ _ _ e _ _ => e
theorem ObjAt.idx {T : List Addr} {ρ : List (Addr × Addr)} {h : Heap} {k : Nat} {po : PO} (x : ObjAt T ρ h k po) : k < ρ.length := by
  obtain ⟨p, o, e, _⟩ := x.at_
  exact (List.getElem?_eq_some_iff.mp e).1
theorem spec_same {W : Wd} {D : Nat} {f : Value} {ps : List PV} {r : PV} {objs objs' : List PO} (h : SpecK W D f ps [] objs r objs') (hl : objs'.length = objs.length) (ho : ∀ po ∈ objs, po.ltB objs.length = true) (hp : PV.ltL objs.length ps = true) : Spec W D f ps objs r objs' := by
  rintro c ok rfl room s vs Q E B live frs O ia hq
  have hn : objs.length ≤ c.ρ.length := by
    cases q : objs.length with
    | zero => exact Nat.zero_le _
    | succ k =>
      have hk : k < objs.length := by rw [q]; exact Nat.lt_succ_self k
      exact (O k _ (List.getElem?_eq_getElem hk)).idx
  have hr : c.ρ.take objs.length ++ c.ρ.drop objs.length = c.ρ := List.take_append_drop _ _
  have hlen : (c.ρ.take objs.length).length = objs.length := List.length_take_of_le hn
  generalize c.ρ.drop objs.length = ν at hr
  generalize c.ρ.take objs.length = ρ0 at hr hlen
  have hm : ∀ b ∈ mutsOf ρ0, b ∈ mutsOf c.ρ := fun b hb => by
    unfold mutsOf at hb ⊢
    rw [← hr, List.map_append]; exact List.mem_append_left _ hb
  let c0 : Fc := { c with ρ := ρ0 }
  have ok0 : c0.Ok := by
    refine ⟨⟨fun b hb => ok.fx.mem b ?_, ?_, ok.fx.low⟩, ok.kind, ok.loc, ok.glb, ok.blt, ok.lowK, ok.lo⟩
    · rcases List.mem_cons.mp hb with rfl | hb
      · exact .head _
      · exact .tail _ (hm b hb)
    · have nd := ok.fx.nodup
      unfold muts at nd ⊢
      rw [← hr, List.map_append] at nd
      exact nd.sublist (.cons₂ _ (List.sublist_append_left _ _))
  have O0 : ObjsOk c.T ρ0 objs s.heap := fun k po e => by
    have x := O k po e
    rw [← hr] at x
    exact x.back (by rw [hlen]; exact (List.getElem?_eq_some_iff.mp e).1) (by rw [hlen]; exact ho po (List.mem_of_getElem? e))
  have ia0 : IsL c.T ρ0 s.heap ps vs := IsL.back (T := c.T) (T' := c.T) (ρ := ρ0) (ν := ν) (fun _ h => h) (by rw [hr]; exact ia) (by rw [hlen]; exact hp)
  refine wpAny_call (h c0 ok0 rfl room s vs [] _ B live frs O0 hlen.symm ia0 rfl .nil fun s' v T ρ g l st B' F' live' O' i' => ?_)
  obtain ⟨ν', e1, _⟩ := g.ext
  have e1 : ρ = ρ0 ++ ν' := e1
  have hν : ν' = [] := by
    have := congrArg List.length e1
    rw [List.length_append, ← l, hl, hlen] at this
    exact List.length_eq_zero_iff.mp (by omega)
  rw [hν, List.append_nil] at e1
  subst e1
  refine hq s' v (st.sub hm) B' F' (fun k po e => ?_) ?_
  · have x := ((O' k po e).sub (T := c.T) fun b hb => g.sub b hb).grow (T' := c.T) (ν := ν) fun b hb => .inl hb
    rwa [hr] at x
  · have x := Is.grow (T := c.T) (T' := c.T) (ρ := ρ) (ν := ν) (fun b hb => .inl hb) (i'.to (to_sub fun b hb => g.sub b hb))
    rwa [hr] at x
end A6
section A7
section
variable {w : Wn} {cm wc : Str} {L : List Nat} {rest objs : List PO} {b : Nat} {ts : List (List Nat)}
theorem LexAt.len {objs : List PO} (h : LexAt cm wc L rest b objs ts) : objs.length = rest.length + 4 := by
  obtain ⟨st, ln, n, pb, ts', rfl, _⟩ := h
  rfl
theorem la_steps (hz : L.length ≤ sizeLine) (hcm : (39 ∉ cm.cps.toList) ∧ (34 ∉ cm.cps.toList)) (hwc : 39 ∉ wc.cps.toList) : ∀ (ws : List (List Nat)) (b : Nat) (objs : List PO) (ts : List (List Nat)), LexAt cm wc L rest b objs ts → b + 2 * ws.length ≤ 1000000 → (∀ x ∈ ws, x.length ≤ 1000000) →
    ∃ objs', StepsF (fun b o x b' o' => Spec (WW w) 6 (.ref 782) [b, x] o b' o') (.o 0) objs (sT ws) (.o 0) objs' ∧ LexAt cm wc L rest (b + 2 * ws.length) objs' (ws.foldl (fun ts x => stepW x ts) ts)
  | [], b, objs, ts, h, _, _ => ⟨objs, .nil, h⟩
  | x :: ws, b, objs, ts, h, hb, hx => by
    rw [List.length_cons] at hb
    obtain ⟨objs1, sp, h1⟩ := spec_step (w := w) hz hcm hwc (by omega) (hx x (.head _)) h
    obtain ⟨objs2, st, h2⟩ := la_steps hz hcm hwc ws (b + 2) objs1 _ h1 (by omega) fun y hy => hx y (.tail _ hy)
    refine ⟨objs2, .cons sp (by rw [h1.len, h.len]) st, ?_⟩
    rw [List.length_cons, show b + 2 * (ws.length + 1) = b + 2 + 2 * ws.length by omega]
    exact h2
theorem keep_782 (w : Wn) : keepOk (WW w).K (.ref 782) = true := by kernel_rfl
theorem keep_red (w : Wn) : keepOk (WW w).K (.ref 768) = true := by kernel_rfl
end
theorem tv_isO {c : Fc} {V : View} {l r : Expr} {pos : Pos} {k : Nat} {C a' : Addr} {att : List (Str × PV)} {o' : Obj} (ok : c.Ok) (hl : EvOk c l V (.o k) V) (ho : V.objs[k]? = some (.inst C att)) (hr : EvOk c r V (.v (.ref a')) V) (hK : c.K.lookup a' = some o') (c1 : o'.cls ≠ .type "tuple") (c2 : o'.cls ≠ .ref C) (hm : behindInMarks .Is r = false) : TvOk c (.Compare l [.Is] [r] pos) V false V := by
  intro s Q E I h
  refine wpAny_isTrue_Compare1 (hl s _ E I fun s1 v I1 t1 i1 => hr s1 _ E I1 fun s2 u I2 t2 i2 => ?_) hm
  cases i2
  obtain ⟨a, m, rfl, e1⟩ := i1.io
  obtain ⟨a1, dx, es, n, e2, na, ea, ed, mt⟩ := I2.rep.objs k _ ho
  rw [e1] at e2; cases e2
  have eb := I2.base.k _ _ hK
  have ne : a ≠ a' := fun q => by
    subst q
    rw [eb] at ea
    injection ea with ea
    exact c2 (by rw [ea])
  exact wpAny_bind (PySem.SeqAt.wpAny_isSame_ref_other' ne ea eb c1 (wpAny_pure (wpAny_truthy_bool (h s2 I2 (t1.trans t2)))))
structure S2X where
  x : Str
  px : Pos
  y : Str
  py : Pos
  pc : Pos
  bd : List Stmt
  el : List Stmt
  p : Pos
noncomputable def S2X.st (r : S2X) : Stmt := .If (.Compare (.Name r.x r.px) [.Is] [.Name r.y r.py] r.pc) r.bd r.el r.p
set_option backward.match.sparseCases false in
noncomputable def s2X : Stmt → Option S2X
  | .If (.Compare (.Name x px) [.Is] [.Name y py] pc) bd el p => some ⟨x, px, y, py, pc, bd, el, p⟩
  | _ => none
theorem s2_some (w : Wn) : (s2X (ruG w).s2).isSome = true := by kernel_rfl
noncomputable def s2G (w : Wn) : S2X := (s2X (ruG w).s2).get (s2_some w)
theorem s2_shape (w : Wn) : (ruG w).s2 = (s2G w).st := by kernel_rfl
noncomputable def o760 (w : Wn) : Obj := ((WW w).K.lookup 760).getD default
theorem o760_at (w : Wn) : (WW w).K.lookup 760 = some (o760 w) := by kernel_rfl
theorem o760_cls (w : Wn) : (o760 w).cls = .type "object" := by kernel_rfl
section
variable {w : Wn} {cm wc : Str} {L : List Nat} {rest objs : List PO} {b : Nat} {ts : List (List Nat)}
theorem s2_x (w : Wn) (q a : PV) (It : Value) (objs : List PO) : pe (ruCfg0 w) 5 (.Name (s2G w).x (s2G w).px) ⟨ruY1 (.v (.ref 782)) q a It, objs⟩ = some (a, []) := by kernel_rfl
theorem s2_y (w : Wn) (q a : PV) (It : Value) (objs : List PO) : pe (ruCfg0 w) 5 (.Name (s2G w).y (s2G w).py) ⟨ruY1 (.v (.ref 782)) q a It, objs⟩ = some (.v (.ref 760), []) := by kernel_rfl
theorem s2_el (w : Wn) (q a : PV) (It : Value) (objs : List PO) : Mine.xs (ruCfg0 w) 20 (s2G w).el [] ⟨ruY1 (.v (.ref 782)) q a It, objs⟩ = some (.next, [], ⟨ruY2 (.v (.ref 782)) q a It a, objs⟩, []) := by kernel_rfl
theorem s2_mark (w : Wn) : behindInMarks .Is (.Name (s2G w).y (s2G w).py) = false := by kernel_rfl
theorem ru_2o {D : Nat} (hD : 1 ≤ D) (q : PV) (hi : instC objs 0 732) (c : Fc) (ok : c.Ok) (e : c.toWd = WW w) (room : Room c.A.in1 D) (hs : c.env.scope = (ruFd w).scope) (It : Value) : SxOk c (ruG w).s2 ⟨ruY1 (.v (.ref 782)) q (.o 0) It, objs⟩ .next ⟨ruY2 (.v (.ref 782)) q (.o 0) It (.o 0), objs⟩ := by
  have gk := mkCfg_ok (D := 1) (t := tabs) (po := blt _ _) (eo := .none _ _) ok e (room.le hD) (by decide) hs (tabs_ok w)
  rw [s2_shape]
  obtain ⟨att, ho⟩ := hi
  have hK : c.K.lookup 760 = some (o760 w) := by rw [congrArg Wd.K e]; exact o760_at w
  have t : TvOk c (.Compare (.Name (s2G w).x (s2G w).px) [.Is] [.Name (s2G w).y (s2G w).py] (s2G w).pc) ⟨ruY1 (.v (.ref 782)) q (.o 0) It, objs⟩ false ⟨ruY1 (.v (.ref 782)) q (.o 0) It, objs⟩ :=
    tv_isO ok ((pe_ok ok gk 5).e _ _ _ (s2_x w q _ It objs) trivial) ho ((pe_ok ok gk 5).e _ _ _ (s2_y w q _ It objs) trivial) hK (by rw [o760_cls]; decide) (by rw [o760_cls]; intro z; cases z) (s2_mark w)
  exact sx_if t ((sx_sound ok gk 20).2 _ _ _ _ _ _ _ (s2_el w q _ It objs) trivial)
theorem strs_ltL (n : Nat) : ∀ ts : List (List Nat), PV.ltL n (sT ts) = true
  | [] => rfl
  | t :: r => by show (true && PV.ltL n (sT r)) = true; rw [strs_ltL n r]; rfl
theorem rev_items {ws : List PV} {T : List Addr} {ρ : List (Addr × Addr)} {h : Heap} {v : Value} (i : Is T ρ h (.r ws) v) : ∃ l ob arr n, SeqI T h "list" v l ob arr n ∧ IsL T ρ h ws.reverse arr.toList := by
  obtain ⟨l, ob, arr, n, si, il⟩ := i.ir
  exact ⟨l, ob, arr, n, si, by have := il.reverse; rwa [List.reverse_reverse] at this⟩
theorem spec_redL (hz : L.length ≤ sizeLine) (hcm : (39 ∉ cm.cps.toList) ∧ (34 ∉ cm.cps.toList)) (hwc : 39 ∉ wc.cps.toList) {ws : List (List Nat)} (hb : b + 2 * ws.length ≤ 1000000) (hx : ∀ x ∈ ws, x.length ≤ 1000000) (h : LexAt cm wc L [] b objs ts) :
    ∃ objs', Spec (WW w) 7 (.ref 768) [.v (.ref 782), .r (sT ws), .o 0] objs (.o 0) objs' ∧ LexAt cm wc L [] (b + 2 * ws.length) objs' (ws.reverse.foldl (fun ts x => stepW x ts) ts) := by
  obtain ⟨objs', st, h'⟩ := la_steps (w := w) hz hcm hwc ws.reverse b objs ts h (by rw [List.length_reverse]; exact hb) fun x hx' => hx x (List.mem_reverse.mp hx')
  rw [List.length_reverse] at h'
  refine ⟨objs', ?_, h'⟩
  have e : sT ws.reverse = (sT ws).reverse := List.map_reverse
  rw [e] at st
  have hi := h.inst
  have hlt : ∀ po ∈ objs, po.ltB objs.length = true := by
    obtain ⟨st0, ln, n, pb, ts', rfl, _, _, hs⟩ := h
    intro po hpo
    rcases List.mem_cons.mp hpo with rfl | hpo
    · show PV.ltL 4 _ = true
      rcases hs with ⟨rfl, _⟩ | ⟨rfl, _⟩ <;> rfl
    · rcases List.mem_cons.mp hpo with rfl | hpo
      · rfl
      · rcases List.mem_cons.mp hpo with rfl | hpo
        · exact strs_ltL 4 pb
        · rcases List.mem_singleton.mp hpo with rfl; rfl
  refine spec_same (spec_reduceX w (D := 6) (by decide) (Nat.zero_le _) (bindX3 w) (fun T ρ h v i => rev_items i) (startX_of fun c ok e room hs It => ru_2o (by decide) _ hi c ok e room hs It) (loopX_of (turn_def (by decide) (keep_782 w) fun It => turn_782 w _ _ It) st)) (by rw [h'.len, h.len]) hlt ?_
  show (true && (PV.ltL objs.length (sT ws) && (decide (0 < objs.length) && true))) = true
  rw [strs_ltL, h.len]; rfl
end
end A7
section A8
noncomputable abbrev pdFd (w : Wn) : FuncData := fdOf (WW w).K 789
theorem pd_def (w : Wn) : (isDef (WW w).K 789 (pdFd w) && hasBody (pdFd w)) = true := by kernel_rfl
theorem pd_bind (w : Wn) (a b : Value) (S : Setting) (sz tk : Nat) : (runAl (WW w).K S 200 sz tk (bindArgs (pdFd w) ⟨[a, b], []⟩)).map (·.1) = some ([("ahead", a), ("behind", b)] : List (Str × Value)) := by kernel_rfl
theorem pd_names (w : Wn) : (["ahead", "behind"] : List Str).all (fun x => (pdFd w).scope.names.lookup x == some .local) = true := by kernel_rfl
theorem keep_split (w : Wn) : keepOk (WW w).K (.ref 744) = true := by kernel_rfl
theorem keep_join (w : Wn) : keepOk (WW w).K (.ref 751) = true := by kernel_rfl
noncomputable abbrev pdO (L : List Nat) : List PO := lexQ "#" wcS (.s " ") 1 L 0 [] []
noncomputable abbrev pdGo (w : Wn) (t : Str) : GOrc (WW w) 12 := GOrc.one (keep_lex w) ((spec_lex w t).le (by decide))
section
variable {w : Wn} {L : List Nat} {A J : Str} {ws ts : List PV} {O2 O3 : List PO}
noncomputable abbrev pdCfg (h1 : Spec (WW w) 12 (.ref 744) [.s A] (pdO L) (.l ws) (pdO L)) (h2 : Spec (WW w) 12 (.ref 768) [.v (.ref 782), .r ws, .o 0] (pdO L) (.o 0) O2) (h3 : Spec (WW w) 12 (.type "list") [.o 0] O2 (.l ts) O3) (h4 : Spec (WW w) 12 (.ref 751) [.l ts] O3 (.s J) O3) : Cfg :=
  mkCfg (pdFd w).scope tabs ((POrc.one (keep_split w) h1).or ((POrc.one (keep_join w) h4).or (blt _ _))) ((Orc.one (keep_red w) h2).or (Orc.one rfl h3))
end
end A8
section A10
noncomputable def okCm (cm : List Nat) : Prop := ∀ c, sf c = true → cm.contains c = false
theorem okCm_nil : okCm [] := fun _ _ => rfl
theorem okCm_hash : okCm [35] := fun c h => by
  have : sf 35 = false := by decide +kernel
  cases q : ([35] : List Nat).contains c with
  | false => rfl
  | true =>
    rcases List.mem_singleton.mp (List.contains_iff_mem.mp q) with rfl
    rw [this] at h; cases h
section
variable {cm : List Nat}
theorem sf_plain (hc : okCm cm) {c : Nat} (h : sf c = true) : plainC cm c = true ∧ c ≠ 32 ∧ c ≠ 39 ∧ c ≠ 34 := by
  have key : ∀ d ∈ ([32, 9, 13, 10, 39, 34, 92] : List Nat), sf d = false := by decide +kernel
  have ne : ∀ d ∈ ([32, 9, 13, 10, 39, 34, 92] : List Nat), c ≠ d := fun d hd q => by rw [q, key d hd] at h; cases h
  refine ⟨?_, ne 32 (by decide), ne 39 (by decide), ne 34 (by decide)⟩
  unfold plainC
  have : ([32, 9, 13, 10, 39, 34, 92] : List Nat).contains c = false := by
    cases q : ([32, 9, 13, 10, 39, 34, 92] : List Nat).contains c with
    | false => rfl
    | true => exact absurd rfl (ne c (List.contains_iff_mem.mp q))
  rw [this, hc c h]; rfl
theorem rd_safe (hc : okCm cm) : ∀ (l r : List Nat) (q : Bool) (t : List Nat), l.all sf = true → rdT cm (l ++ r) .aa q t = rdT cm r .aa q (t ++ l)
  | [], r, q, t, _ => by rw [List.append_nil]; rfl
  | c :: l, r, q, t, h => by
    obtain ⟨h1, h2⟩ := Bool.and_eq_true_iff.mp (show (sf c && l.all sf) = true from h)
    obtain ⟨p, a, b, d⟩ := sf_plain hc h1
    show rdT cm (c :: (l ++ r)) .aa q t = _
    rw [rd_aa, if_neg a, if_neg b, if_neg d, if_pos p, rd_safe hc l r q _ h2, List.append_assoc]; rfl
theorem rd_quoted : ∀ (l r : List Nat) (q : Bool) (t : List Nat), rdT cm (repQ l ++ 39 :: r) .sq q t = rdT cm r .aa true (t ++ l)
  | [], r, q, t => by
    show rdT cm (39 :: r) .sq q t = _
    rw [rd_sq, if_pos rfl, List.append_nil]
  | c :: l, r, q, t => by
    have e : repQ (c :: l) = (if c = 39 then [39, 34, 39, 34, 39] else [c]) ++ repQ l := rfl
    rw [e]
    by_cases h : c = 39
    · subst h
      rw [if_pos rfl]
      show rdT cm (39 :: 34 :: 39 :: 34 :: 39 :: (repQ l ++ 39 :: r)) .sq q t = _
      rw [rd_sq, if_pos rfl, rd_aa, if_neg (by decide), if_neg (by decide), if_pos rfl, rd_dq, if_neg (by decide), if_pos rfl, rd_dq, if_pos rfl, rd_aa, if_neg (by decide), if_pos rfl, rd_quoted l r true (t ++ [39]), List.append_assoc]; rfl
    · rw [if_neg h]
      show rdT cm (c :: (repQ l ++ 39 :: r)) .sq q t = _
      rw [rd_sq, if_neg h, rd_quoted l r true (t ++ [c]), List.append_assoc]; rfl
theorem rd_word (hc : okCm cm) (w r : List Nat) : ∃ q, (q = true ∨ w ≠ []) ∧ rdT cm (quoteL w ++ r) .sp false [] = rdT cm r .aa q w := by
  unfold quoteL
  cases w with
  | nil =>
    refine ⟨true, .inl rfl, ?_⟩
    show rdT cm (39 :: 39 :: r) .sp false [] = _
    rw [rd_sp, if_neg (by decide), if_pos rfl, rd_sq, if_pos rfl]
  | cons c l =>
    rw [if_neg (by simp)]
    by_cases h : (c :: l).all sf = true
    · rw [if_pos h]
      obtain ⟨h1, h2⟩ := Bool.and_eq_true_iff.mp (show (sf c && l.all sf) = true from h)
      obtain ⟨p, a, b, d⟩ := sf_plain hc h1
      refine ⟨false, .inr (by simp), ?_⟩
      show rdT cm (c :: (l ++ r)) .sp false [] = _
      rw [rd_sp, if_neg a, if_neg b, if_pos p, rd_safe hc l r false [c] h2]; rfl
    · rw [if_neg h]
      refine ⟨true, .inl rfl, ?_⟩
      show rdT cm (39 :: ((repQ (c :: l) ++ [39]) ++ r)) .sp false [] = _
      rw [rd_sp, if_neg (by decide), if_pos rfl, List.append_assoc]
      exact rd_quoted (c :: l) r false []
theorem word_some {q : Bool} {a : List Nat} (h : q = true ∨ a ≠ []) : (!q && a.isEmpty) = false ∧ (!a.isEmpty || q) = true := by
  rcases h with rfl | h
  · exact ⟨rfl, Bool.or_true _⟩
  · cases a with
    | nil => exact absurd rfl h
    | cons => exact ⟨Bool.and_false _, rfl⟩
theorem toks_join (hc : okCm cm) (ws : List (List Nat)) : ∀ k : Nat, ws.length < k → toksT cm k (joinL ws) = some ws := by
  induction ws with
  | nil =>
    intro k h
    cases k with
    | zero => exact absurd h (Nat.not_lt_zero _)
    | succ k => rfl
  | cons a r ih =>
    intro k h
    cases k with
    | zero => exact absurd h (Nat.not_lt_zero _)
    | succ k =>
      cases r with
      | nil =>
        obtain ⟨q, hq, e⟩ := rd_word hc a []
        rw [List.append_nil] at e
        exact toks_end (rem := []) e (word_some hq).1
      | cons b r =>
        obtain ⟨q, hq, e⟩ := rd_word hc a (32 :: joinL (b :: r))
        rw [rd_aa, if_pos rfl, if_pos (word_some hq).2] at e
        exact toks_more e (word_some hq).1 (ih k (Nat.lt_of_succ_lt_succ h))
end
structure Wd4 (n : Nat) (ws : List (List Nat)) : Prop where
  n : ws.length ≤ n
  w : ∀ l ∈ ws, l.length ≤ 10
theorem quote_len (l : List Nat) : (quoteL l).length ≤ 5 * l.length + 2 := by
  unfold quoteL
  cases l with
  | nil => exact Nat.le_refl _
  | cons c r =>
    rw [if_neg (by simp)]
    have := repQ_len (c :: r)
    split
    · omega
    · rw [List.length_cons, List.length_append]
      show (repQ (c :: r)).length + 1 + 1 ≤ _
      omega
theorem quotes_len : ∀ {ws : List (List Nat)}, (∀ l ∈ ws, l.length ≤ 10) → ((ws.map quoteL).map List.length).sum ≤ 52 * ws.length
  | [], _ => Nat.le_refl _
  | a :: r, h => by
    have h1 := quote_len a
    have h2 := h a (.head _)
    have h3 := quotes_len (ws := r) fun l hl => h l (.tail _ hl)
    show (quoteL a).length + ((r.map quoteL).map List.length).sum ≤ 52 * (r.length + 1)
    omega
theorem glue_len : ∀ ls : List (List Nat), (glueL ls).length ≤ (ls.map List.length).sum + ls.length
  | [] => Nat.le_refl _
  | [a] => by show a.length ≤ a.length + 0 + 1; omega
  | a :: b :: r => by
    have := glue_len (b :: r)
    show (a ++ 32 :: glueL (b :: r)).length ≤ _
    rw [List.length_append, List.length_cons, List.map_cons, List.sum_cons, List.length_cons]
    omega
theorem Wd4.line {n : Nat} {ws : List (List Nat)} (h : Wd4 n ws) : (joinL ws).length ≤ 53 * n := by
  have h1 := glue_len (ws.map quoteL)
  have h2 := quotes_len h.w
  rw [List.length_map] at h1
  have h3 := h.n
  unfold joinL
  omega
theorem Wd4.nil (n : Nat) : Wd4 n [] := ⟨Nat.zero_le _, fun _ h => nomatch h⟩
theorem Wd4.le {n m : Nat} {ws : List (List Nat)} (h : Wd4 n ws) (hm : n ≤ m) : Wd4 m ws := ⟨Nat.le_trans h.n hm, h.w⟩
theorem stepW_len (x : List Nat) (ts : List (List Nat)) : (stepW x ts).length ≤ ts.length + 1 ∧ ∀ l ∈ stepW x ts, l = x ∨ l ∈ ts := by
  cases ts with
  | nil => exact ⟨Nat.le_refl _, fun l h => .inl (List.mem_singleton.mp h)⟩
  | cons t r =>
    show (if t = invW x then r else x :: t :: r).length ≤ _ ∧ ∀ l ∈ (if t = invW x then r else x :: t :: r), _
    split
    · exact ⟨by rw [List.length_cons]; omega, fun l h => .inr (.tail _ h)⟩
    · exact ⟨Nat.le_refl _, fun l h => by rcases List.mem_cons.mp h with rfl | h; exact .inl rfl; exact .inr h⟩
theorem Wd4.steps {n m : Nat} {a b : List (List Nat)} (ha : Wd4 n a) (hb : Wd4 m b) : Wd4 (n + m) (a.foldr stepW b) := by
  suffices H : ∀ a : List (List Nat), (a.foldr stepW b).length ≤ a.length + b.length ∧ ∀ l ∈ a.foldr stepW b, l ∈ a ∨ l ∈ b by
    obtain ⟨h1, h2⟩ := H a
    have h3 := ha.n
    have h4 := hb.n
    refine ⟨by omega, fun l hl => ?_⟩
    rcases h2 l hl with q | q
    · exact ha.w l q
    · exact hb.w l q
  intro a
  induction a with
  | nil => exact ⟨by simp, fun l h => .inr h⟩
  | cons x r ih =>
    obtain ⟨h1, h2⟩ := stepW_len x (r.foldr stepW b)
    refine ⟨?_, fun l hl => ?_⟩
    · show (stepW x (r.foldr stepW b)).length ≤ _
      rw [List.length_cons]
      have := ih.1
      omega
    · rcases h2 l hl with rfl | q
      · exact .inl (.head _)
      · rcases ih.2 l q with q | q
        · exact .inl (.tail _ q)
        · exact .inr q
section
variable {w : Wn} {L : List Nat} {A J : Str} {ws ts : List PV} {O2 O3 : List PO}
theorem pd_run (h1 : Spec (WW w) 12 (.ref 744) [.s A] (pdO L) (.l ws) (pdO L)) (h2 : Spec (WW w) 12 (.ref 768) [.v (.ref 782), .r ws, .o 0] (pdO L) (.o 0) O2) (h3 : Spec (WW w) 12 (.type "list") [.o 0] O2 (.l ts) O3) (h4 : Spec (WW w) 12 (.ref 751) [.l ts] O3 (.s J) O3) :
   gxr (pdCfg h1 h2 h3 h4) (pdGo w (tx L)).fn 60 (bodyOf (pdFd w)) [] ⟨[("ahead", .s A), ("behind", .s (tx L))], []⟩ = some (.ret (.s J), O3, [Rf ([PV.s (tx L)], ([("posix", .v (.bool true))] : List (Str × PV)), ([] : List PO)), 4 = 4, Rf ([PV.s A], pdO L), Ln ws, Rf ([PV.v (.ref 782), .r ws, .o 0], pdO L), Rf ([PV.o 0], O2), Rf ([PV.l ts], O3), O3.length = 4]) := by kernel_rfl
end
theorem hash_ok : (39 ∉ (Str.ofString "#").cps.toList) ∧ (34 ∉ (Str.ofString "#").cps.toList) := by decide
theorem hash_is : (Str.ofString "#").cps.toList = [35] := by decide +kernel
theorem spec_product (w : Wn) {a b : List (List Nat)} (ha : Wd4 1000 a) (hb : Wd4 1000 b) : SpecP (WW w) 13 (.ref 789) [.s (tx (joinL a)), .s (tx (joinL b))] (.s (tx (joinL (a.foldr stepW b)))) := by
  have la := ha.line
  have lb := hb.line
  have na := ha.n
  have nb := hb.n
  have hs := ha.steps hb
  have ns := hs.n
  have la0 : LexAt "#" wcS (joinL b) [] 0 (pdO (joinL b)) b := ⟨.s " ", 1, 0, [], b, rfl, rfl, Nat.le_refl _, .inl ⟨rfl, Nat.zero_le _, b.length + 1, by
    rw [List.drop_zero]
    show toksT (Str.ofString "#").cps.toList _ _ = _
    rw [hash_is]; exact toks_join okCm_hash b _ (by omega)⟩⟩
  have h1 : Spec (WW w) 12 (.ref 744) [.s (tx (joinL a))] (pdO (joinL b)) (.l (sT a)) (pdO (joinL b)) := ((spec_split (toks_join okCm_nil a (a.length + 1) (by omega)) (by omega) (by omega)) (pdO (joinL b))).le (by decide)
  obtain ⟨O2, h2, l2⟩ := spec_redL (w := w) (ws := a) (Nat.le_trans (by omega : (joinL b).length ≤ 1000000) sizeM) hash_ok wcS_39 (by omega) (fun x hx => by have := ha.w x hx; omega) la0
  rw [List.foldl_reverse] at l2
  obtain ⟨O3, h3, l3⟩ := la_list (w := w) (by omega) hash_ok wcS_39 (by omega) l2 (by have := hs.n; show (List.foldr stepW b a).length ≤ _; omega)
  have h4 : Spec (WW w) 12 (.ref 751) [.l (sT (a.foldr stepW b))] O3 (.s (tx (joinL (a.foldr stepW b)))) O3 := (spec_join w (a.foldr stepW b) (fun l hl => by have := hs.w l hl; omega) (by have := quotes_len hs.w; omega) O3).le (by decide)
  refine spec_pure (spec_runG (by decide) (pd_def w) (tabs_ok w) (fun T ρ s vs kvs B hT ia ek ik => ?_) (pd_run (w := w) h1 (h2.le (by decide)) (h3.le (by decide)) h4) ⟨rfl, rfl, rfl, ?_, rfl, rfl, rfl, l3.len, trivial⟩) (by rfl) (by rfl)
  · obtain ⟨x, y, rfl, i, j⟩ := isL2 ia
    cases kvs with
    | cons _ _ => cases ek
    | nil => exact bind_al B.k (pd_bind w x y _ _ _) (pd_names w) (loc_binds rfl (.cons i (.cons j .nil)) (nodupB_ok (l := ["ahead", "behind"]) (by decide)))
  · show (sT a).length ≤ 1000000
    rw [List.length_map]; omega
end A10
section C1
section
variable {T : List Addr} {ρ : List (Addr × Addr)} {h h' : Heap} {C : Addr}
theorem to_drop1 (sb : ∀ b, b ≠ C → h'.get? b = h.get? b) : IsTo (C :: T) T ρ ρ h h' := ⟨fun a ob n e _ _ => ⟨fun z => n (.tail _ z), (sb _ fun q => n (q ▸ .head _)).trans e⟩, fun _ _ _ e => e⟩
theorem Is.drop1 (sb : ∀ b, b ≠ C → h'.get? b = h.get? b) {p : PV} {v : Value} (i : Is (C :: T) ρ h p v) : Is T ρ h' p v := i.to (to_drop1 sb)
theorem ObjAt.drop1 {k : Nat} {po : PO} (sb : ∀ b, b ≠ C → h'.get? b = h.get? b) (hm : C ∉ ρ.map (·.2)) (x : ObjAt (C :: T) ρ h k po) : ObjAt T ρ h' k po := x.to (to_drop1 sb) fun a d o e eo _ _ => (sb _ fun q => hm (List.mem_map.mpr ⟨(a, d), List.mem_of_getElem? e, q⟩)).trans eo
end
theorem Inv.drop1 {c : Fc} {V : View} {s : Shared} {T : List Addr} {h' : Heap} {C : Addr} (ok : (c.at T c.ρ).Ok) (I : Inv (c.at (C :: T) c.ρ) V s) (hm : C ∉ c.muts) (hC : c.N ≤ C) (hT : C ∉ T) (hf : NoFr c.A C) (sb : Heap.SameBut C s.heap h') : Inv (c.at T c.ρ) V { s with heap := h' } := by
  have eq : ∀ b, b ≠ C → h'.get? b = s.heap.get? b := fun b hb => sb.2 b hb
  obtain ⟨m, fr, lo⟩ := I.rep.ns
  have hL : c.L ≠ C := fun q => hm (q ▸ .head _)
  obtain ⟨o, ho, hc⟩ := fr.cls
  refine ⟨⟨⟨m, ⟨fr.ns.at' fun o e => (eq _ hL).trans e, o, (eq _ hL).trans ho, hc⟩, fun x p e => let ⟨v, e1, e2⟩ := lo x p e; ⟨v, e1, e2.drop1 eq⟩⟩, fun j po e => (I.rep.objs j po e).drop1 eq fun z => hm (.tail _ z)⟩, I.base.off ok.lowK ok.lo hC sb.extBut, fun b hb => ?_, I.frs.off sb.extBut hf⟩
  obtain ⟨o, e⟩ := I.live b (.tail _ hb)
  exact ⟨o, (eq b fun q => hT (q ▸ hb)).trans e⟩
theorem Inv.touchF {c : Fc} {V : View} {s : Shared} {h' : Heap} {It : Addr} (ok : c.Ok) (I : Inv c V s) (hT : It ∈ c.T) (hm : It ∉ c.muts) (hf : NoFr c.A It) (k : Keep c.N [It] s.heap h') (xb : Heap.ExtBut It s.heap h') : Inv c V { s with heap := h' } := by
  have kT : Keep c.N c.T s.heap h' := k.sub fun b hb => by rcases List.mem_singleton.mp hb with rfl; exact hT
  have nm : ∀ {b}, b ∈ c.muts → b ∉ [It] := fun hb z => hm (by rcases List.mem_singleton.mp z with rfl; exact hb)
  obtain ⟨m, fr, lo⟩ := I.rep.ns
  exact ⟨⟨⟨m, k.frame (nm (.head _)) fr, fun x p e => let ⟨v, e1, e2⟩ := lo x p e; ⟨v, e1, e2.keep kT⟩⟩, fun j po e => (I.rep.objs j po e).keep k (fun a d e => nm (.tail _ (List.mem_map.mpr ⟨(a, d), List.mem_of_getElem? e, rfl⟩))) (fun b hb => by rcases List.mem_singleton.mp hb with rfl; exact hT) kT⟩, I.base.keep (T := [It]) ok.lowK (fun b hb => by rcases List.mem_singleton.mp hb with rfl; exact ok.fx.low _ hT) ok.lo k, fun b hb => let ⟨o, e⟩ := I.live b hb; k.there b o e, I.frs.off xb hf⟩
structure OwnNew (c : Fc) (V : View) (s : Shared) (It : Addr) (o : Obj) (s' : Shared) : Prop where
  no : s.heap.get? It = none
  ok : (c.at (It :: c.T) c.ρ).Ok
  hm : It ∉ c.muts
  hT : It ∉ c.T
  low : c.N ≤ It
  inv : Inv (c.at (It :: c.T) c.ρ) V s'
  st : St c.N c.muts s s'
  at_ : s'.heap.get? It = some o
  keep : Keep c.N [] s.heap s'.heap
  nf : NoFr c.A It
theorem own_new {c : Fc} {V : View} {s : Shared} {ob : Obj} (ok : c.Ok) (I : Inv c V s) (at_ : (s.heap.push ob).get? s.heap.objs.size = some ob) : OwnNew c V s s.heap.objs.size ob { s with heap := s.heap.push ob } := by
  have no : s.heap.get? s.heap.objs.size = none := by
    cases q : s.heap.get? s.heap.objs.size with
    | none => rfl
    | some o => exact absurd (Heap.lt_size q) (Nat.lt_irrefl _)
  have NI : c.N ≤ s.heap.objs.size := by
    obtain ⟨o, e⟩ := I.live c.L (ok.fx.mem _ (.head _))
    exact Nat.le_of_lt (Nat.lt_of_le_of_lt (ok.fx.low _ (ok.fx.mem _ (.head _))) (Heap.lt_size e))
  have up : ∀ b o, s.heap.get? b = some o → (s.heap.push ob).get? b = some o := fun b o e => Heap.get?_push_of_some _ e
  generalize s.heap.objs.size = It at *
  generalize s.heap.push ob = h' at *
  have k : Keep c.N [] s.heap h' := .of_all up
  have nT : It ∉ c.T := fun z => by obtain ⟨o, e⟩ := I.live _ z; rw [no] at e; cases e
  have ok' : (c.at (It :: c.T) c.ρ).Ok := ⟨⟨fun b hb => .tail _ (ok.fx.mem b hb), ok.fx.nodup, fun b hb => by rcases List.mem_cons.mp hb with rfl | hb; exact NI; exact ok.fx.low b hb⟩, ok.kind, ok.loc, ok.glb, ok.blt, ok.lowK, ok.lo⟩
  obtain ⟨m, hn, lo⟩ := I.rep.ns
  have kT : Keep c.N (It :: c.T) s.heap h' := k.all
  refine ⟨no, ok', fun z => nT (ok.fx.mem _ z), nT, NI, ⟨⟨⟨m, k.frame (fun z => nomatch z) hn, fun x p e => let ⟨v, e1, e2⟩ := lo x p e; ⟨v, e1, (e2.more no).keep kT⟩⟩, fun j po e => ((I.rep.objs j po e).more no).keep k (fun _ _ _ z => nomatch z) (fun _ z => nomatch z) kT⟩, I.base.keep (T := []) ok.lowK (fun _ h => nomatch h) ok.lo k, fun b hb => ?_, I.frs.keep k⟩, ⟨k.all, .refl _, rfl⟩, at_, k, fun fs e env he q => ?_⟩
  · rcases List.mem_cons.mp hb with rfl | hb
    · exact ⟨_, at_⟩
    · obtain ⟨o, e⟩ := I.live b hb; exact ⟨o, up b o e⟩
  · obtain ⟨fs', e', hf⟩ := I.frs
    rw [e] at e'; cases e'
    obtain ⟨_, L, m, h2, _, h4⟩ := hf env he
    rw [q] at h2
    have := Option.some.inj h2
    subst this
    obtain ⟨o, ho, _⟩ := h4.cls
    rw [no] at ho; cases ho
end C1
section C2
noncomputable def CElt (c : Fc) (elt : Expr) (scope : Scope) (x : Str) (V : View) (p r : PV) : Prop := ∀ (T : List Addr) (C : Addr) (s : Shared) (m : Str → Option Value) (v : Value) (Q E : Value → Shared → Prop), (c.at T c.ρ).Ok → Inv (c.at T c.ρ) V s → s.heap.Ns C m → m x = some v → Is T c.ρ s.heap p v →
  (∀ s' v', Inv (c.at T c.ρ) V s' → St c.N c.muts s s' → Is T c.ρ s'.heap r v' → Q v' s') → wpAny c.M c.A (eval elt (compEnv scope C c.env)) Q E s
structure CAt (c : Fc) (V : View) (F : List Addr) (s0 : Shared) (It D C l : Addr) (T : List Addr) (vs : List Value) (ps acc : List PV) (i : Nat) (s : Shared) : Prop where
  inv : Inv (c.at T c.ρ) V s
  st : St c.N F s0 s
  it : s.heap.IsListIter It l i
  ls : s.heap.IsList l vs.toArray
  acc : ∃ ys : List Value, s.heap.IsList D ys.toArray ∧ IsL T c.ρ s.heap acc ys
  ns : ∃ m, s.heap.Ns C m
  iv : IsL T c.ρ s.heap (ps.drop i) (vs.drop i)
structure COk (c : Fc) (F : List Addr) (s0 : Shared) (It D C l : Addr) (T : List Addr) : Prop where
  ok : (c.at T c.ρ).Ok
  nI : s0.heap.get? It = none
  oD : D ∈ F ∨ s0.heap.get? D = none
  oC : C ∈ F ∨ s0.heap.get? C = none
  hI : It ∈ T
  hD : D ∈ T
  hC : C ∈ T
  mI : It ∉ c.muts
  mD : D ∉ c.muts
  mC : C ∉ c.muts
  fI : NoFr c.A It
  fD : NoFr c.A D
  fC : NoFr c.A C
  ID : It ≠ D
  IC : It ≠ C
  DC : D ≠ C
  lT : l ∉ T
noncomputable def CEnd (c : Fc) (V : View) (F : List Addr) (s0 : Shared) (It D C : Addr) (T : List Addr) (rs : List PV) (R : Result → Shared → Prop) : Prop := ∀ s' ys m, Inv (c.at (lessA T It) c.ρ) V s' → St c.N F s0 s' → s'.heap.IsList D ys → IsL (lessA T It) c.ρ s'.heap rs ys.toList → s'.heap.Ns C m → R (.ok .next) s'
theorem IsL.snoc {T : List Addr} {ρ : List (Addr × Addr)} {h : Heap} {ps : List PV} {vs : List Value} {p : PV} {v : Value} (a : IsL T ρ h ps vs) (b : Is T ρ h p v) : IsL T ρ h (ps ++ [p]) (vs ++ [v]) := a.append (.cons b .nil)
theorem one_sub {T : List Addr} {b : Addr} (h : b ∈ T) : ∀ y ∈ [b], y ∈ T := fun y hy => by rcases List.mem_singleton.mp hy with rfl; exact h
theorem n1 {a b : Addr} (h : a ≠ b) : a ∉ [b] := fun z => h (List.mem_singleton.mp z)
theorem St.touchX {N : Nat} {F : List Addr} {s0 s : Shared} {h' : Heap} {d : Addr} (x : St N F s0 s) (n : d ∈ F ∨ s0.heap.get? d = none) (k : Keep N [d] s.heap h') : St N F s0 { s with heap := h' } := by
  rcases n with n | n
  · exact x.trans ⟨k.sub (one_sub n), .refl _, rfl⟩
  · exact x.touch n k
theorem items_cons {T : List Addr} {ρ : List (Addr × Addr)} {h : Heap} {ps : List PV} {vs : List Value} {i : Nat} {v : Value} (hv : vs[i]? = some v) (iv : IsL T ρ h (ps.drop i) (vs.drop i)) : ∃ p, ps[i]? = some p ∧ Is T ρ h p v ∧ IsL T ρ h (ps.drop (i + 1)) (vs.drop (i + 1)) := by
  rw [drop_at hv] at iv
  rw [← List.head?_drop, ← List.tail_drop]
  generalize ps.drop i = q at iv
  cases iv with
  | cons i1 ir => exact ⟨_, rfl, i1, ir⟩
theorem items_end {T : List Addr} {ρ : List (Addr × Addr)} {h : Heap} {ps : List PV} {vs : List Value} {i : Nat} (hv : vs[i]? = none) (hi : i ≤ ps.length) (iv : IsL T ρ h (ps.drop i) (vs.drop i)) : i = ps.length := by
  have e := iv.length
  rw [List.drop_eq_nil_of_le (List.getElem?_eq_none_iff.mp hv), List.length_nil, List.length_drop] at e
  exact Nat.le_antisymm hi (Nat.sub_eq_zero_iff_le.mp e)
section
variable {c : Fc} {V : View} {F : List Addr} {s0 s s' : Shared} {It D C l : Addr} {T : List Addr} {vs : List Value} {ps acc : List PV} {i : Nat}
theorem COk.lI (O : COk c F s0 It D C l T) : l ≠ It := fun q => O.lT (q ▸ O.hI)
theorem COk.lD (O : COk c F s0 It D C l T) : l ≠ D := fun q => O.lT (q ▸ O.hD)
theorem COk.lC (O : COk c F s0 It D C l T) : l ≠ C := fun q => O.lT (q ▸ O.hC)
theorem CAt.next {h1 : Heap} {v : Value} (O : COk c F s0 It D C l T) (a : CAt c V F s0 It D C l T vs ps acc i s) (hv : vs[i]? = some v) (it1 : h1.IsListIter It l (i + 1)) (sb1 : Heap.SameBut It s.heap h1) : ∃ p, ps[i]? = some p ∧ Is T c.ρ h1 p v ∧ CAt c V F s0 It D C l T vs ps acc (i + 1) { s with heap := h1 } := by
  have kI : Keep c.N [It] s.heap h1 := by obtain ⟨o1, e1, _⟩ := it1; exact .sameBut sb1 e1 (.head _)
  obtain ⟨ys, ha, hy⟩ := a.acc
  obtain ⟨m, hm⟩ := a.ns
  obtain ⟨p, hp, i1, ir⟩ := items_cons hv a.iv
  have kT := kI.sub (one_sub O.hI)
  exact ⟨p, hp, i1.keep kT, a.inv.touchF (c := c.at T c.ρ) O.ok O.hI O.mI O.fI kI sb1.extBut, a.st.touch O.nI kI, it1, keep_list kI (n1 O.lI) a.ls, ⟨ys, keep_list kI (n1 O.ID.symm) ha, hy.keep kT⟩, ⟨m, kI.ns (n1 O.IC.symm) hm⟩, ir.keep kT⟩
theorem CAt.set {h1 : Heap} {n : Nat} {m : Str → Option Value} (O : COk c F s0 It D C l T) (a : CAt c V F s0 It D C l T vs ps acc i s) (hm : h1.Ns C m) (sb : Heap.SameBut C s.heap h1) : Keep c.N T s.heap h1 ∧ CAt c V F s0 It D C l T vs ps acc i { s with heap := h1, toks := n } := by
  have kC : Keep c.N [C] s.heap h1 := by obtain ⟨o2, _, _, e2, _⟩ := hm; exact .sameBut sb e2 (.head _)
  obtain ⟨ys, ha, hy⟩ := a.acc
  have kT := kC.sub (one_sub O.hC)
  exact ⟨kT, (a.inv.touchF (c := c.at T c.ρ) (h' := h1) O.ok O.hC O.mC O.fC kC sb.extBut).toks n, (a.st.touchX (h' := h1) O.oC kC).trans (.toks n), keep_iter kC (n1 O.IC) a.it, keep_list kC (n1 O.lC) a.ls, ⟨ys, keep_list kC (n1 O.DC) ha, hy.keep kT⟩, ⟨m, hm⟩, a.iv.keep kT⟩
theorem comp_push {r : PV} {v : Value} {Q : Shared → Prop} {E : Value → Shared → Prop} (O : COk c F s0 It D C l T) (a : CAt c V F s0 It D C l T vs ps acc i s) (ir : Is T c.ρ s.heap r v) (hz : acc.length ≤ 1000000) (k : ∀ s', CAt c V F s0 It D C l T vs ps (acc ++ [r]) i s' → Q s') : wpAny c.M c.A (call (.builtin "list.append") [.ref D, v]) (fun _ s' => Q s') E s := by
  obtain ⟨ys, ha, hy⟩ := a.acc
  obtain ⟨m, hm⟩ := a.ns
  refine wpAny_list_append ha (fun h4 ha4 sb4 => k _ ?_) (by rw [List.size_toArray, ← hy.length]; exact Nat.le_trans hz sizeM)
  have kD : Keep c.N [D] s.heap h4 := by obtain ⟨o4, e4, _⟩ := ha4; exact .sameBut sb4 e4 (.head _)
  have kT := kD.sub (one_sub O.hD)
  exact ⟨a.inv.touchF (c := c.at T c.ρ) O.ok O.hD O.mD O.fD kD sb4.extBut, a.st.touchX O.oD kD, keep_iter kD (n1 O.ID) a.it, keep_list kD (n1 O.lD) a.ls, ⟨ys ++ [v], by rw [← List.push_toArray]; exact ha4, (hy.snoc ir).keep kT⟩, ⟨m, kD.ns (n1 O.DC.symm) hm⟩, a.iv.keep kT⟩
theorem CAt.go (O : COk c c.muts s0 It D C l T) (a : CAt c V c.muts s0 It D C l T vs ps acc i s) (I : Inv (c.at T c.ρ) V s') (t : St c.N c.muts s s') : CAt c V c.muts s0 It D C l T vs ps acc i s' := by
  obtain ⟨ys, ha, hy⟩ := a.acc
  obtain ⟨m, hm⟩ := a.ns
  have kT := t.keep.sub O.ok.fx.mem
  exact ⟨I, a.st.trans t, keep_iter t.keep O.mI a.it, keep_list t.keep (fun z => O.lT (O.ok.fx.mem _ z)) a.ls, ⟨ys, keep_list t.keep O.mD ha, hy.keep kT⟩, ⟨m, t.keep.ns O.mC hm⟩, a.iv.keep kT⟩
theorem comp_turn {x : Str} {px : Pos} {scope : Scope} {Rn RE : Shared → Prop} {E E1 : Value → Shared → Prop} (hh : c.A.handled = none) (hkind : scope.kind = .function) (hx : scope.names.lookup x = some .local) (O : COk c F s0 It D C l T) (hi : i ≤ ps.length) (a : CAt c V F s0 It D C l T vs ps acc i s)
    (kend : ∀ s' ys m, i = ps.length → Inv (c.at (lessA T It) c.ρ) V s' → St c.N F s0 s' → s'.heap.IsList D ys → IsL (lessA T It) c.ρ s'.heap acc ys.toList → s'.heap.Ns C m → Rn s')
    (kmid : ∀ s' m p v, ps[i]? = some p → CAt c V F s0 It D C l T vs ps acc (i + 1) s' → s'.heap.Ns C m → m x = some v → Is T c.ρ s'.heap p v → RE s') :
    wpAny c.M c.A (pyNext (.ref It)) (fun r s₁ => match r with | none => Rn s₁ | some v => wpAny c.M c.A (assign (.Name x px) (compEnv scope C c.env) v) (fun _ s₂ => RE s₂) E1 s₁) E s := by
  cases hv : vs[i]? with
  | none =>
    refine wpAny_pyNext_list_end hh a.it a.ls (by rw [List.getElem?_toArray]; exact hv) fun h' xb => ?_
    obtain ⟨ys, ⟨oD, eD, cD, dD⟩, hy⟩ := a.acc
    obtain ⟨m, hm⟩ := a.ns
    exact kend _ ys.toArray m (items_end hv hi a.iv) (a.inv.off O.ok O.hI O.mI O.fI xb) (a.st.off O.nI xb) ⟨oD, xb D oD O.ID.symm eD, cD, dD⟩ (hy.to (to_off O.hI xb)) (hm.at' fun o e => xb C o O.IC.symm e)
  | some v =>
    refine wpAny_pyNext_list_item a.it a.ls (by rw [List.getElem?_toArray]; exact hv) fun h1 it1 sb1 => ?_
    obtain ⟨p, hp, i1, a1⟩ := a.next O hv it1 sb1
    obtain ⟨m, hm⟩ := a1.ns
    refine wpAny_assign_Name (wpAny_storeName_local (env := compEnv scope C c.env) hx hm (fun h2 hm2 sb2 => ?_) (by show (scope.kind == .class || (scope.kind == .module && _)) = false; rw [hkind]; rfl))
    obtain ⟨kT, a2⟩ := a1.set O (n := s.toks + 1) hm2 sb2
    exact kmid _ _ p v hp a2 hm2 (if_pos rfl) (i1.keep kT)
end
theorem comp_go {c : Fc} {V : View} {elt iter : Expr} {x : Str} {px pos : Pos} {scope : Scope} {ps rs : List PV} {s0 s : Shared} {It D C l : Addr} {T : List Addr} {vs : List Value} {R : Result → Shared → Prop}
    (hh : c.A.handled = none) (hkind : scope.kind = .function) (hx : scope.names.lookup x = some .local) (hlen : rs.length = ps.length) (hz : ps.length ≤ 1000000)
    (he : ∀ (i : Nat) (p r : PV), ps[i]? = some p → rs[i]? = some r → CElt c elt scope x V p r) (O : COk c c.muts s0 It D C l T) (a : CAt c V c.muts s0 It D C l T vs ps [] 0 s) (k : CEnd c V c.muts s0 It D C T rs R) :
    codeAny c.M c.A (.compLoop (.ListComp elt [⟨.Name x px, iter, [], 0⟩] scope pos) 0 (.ref It) (.ref D) (compEnv scope C c.env)) R s := by
  refine codeAny_compLoop_list (fun n s' => ∃ i, n = ps.length + 1 - i ∧ i ≤ ps.length ∧ CAt c V c.muts s0 It D C l T vs ps (rs.take i) i s') ?_ (ps.length + 1) ⟨0, rfl, Nat.zero_le _, a⟩
  rintro n s' ⟨i, rfl, hi, a⟩
  refine comp_turn hh hkind hx O hi a (fun s1 ys m hin I1 t1 h1 h2 h3 => k s1 ys m I1 t1 h1 (by rw [hin, ← hlen, List.take_length] at h2; exact h2) h3) fun s2 m p v hp a2 hm hv i2 => ?_
  obtain ⟨hlt, _⟩ := List.getElem?_eq_some_iff.mp hp
  have hltr : i < rs.length := hlen ▸ hlt
  refine he i p rs[i] hp (List.getElem?_eq_getElem hltr) T C s2 m v _ _ O.ok a2.inv hm hv i2 fun s3 v' I3 t3 i3 => ?_
  exact comp_push O (a2.go O I3 t3) i3 (Nat.le_trans (List.length_take_le' _ _) (hlen ▸ hz)) fun s4 a4 => ⟨_, ndec hlt, i + 1, rfl, hlt, by rw [List.take_succ_eq_append_getElem hltr]; exact a4⟩
theorem wp_compEnv {M : Model} {A : Around} {E : Value → Shared → Prop} {s : Shared} {scope : Scope} {env : Env} {Q : Env → Shared → Prop} (hcell : ∀ x ∈ scope.names, x.2 ≠ .cell) (h : Q (compEnv scope s.heap.objs.size env) { s with heap := s.heap.push { cls := .type "dict", data := .dict #[] } }) :
    wpAny M A (newFunctionEnv scope env.globals [] [] env.qual none .none (some env)) Q E s := by
  simp only [newFunctionEnv, Option.isSome_some, if_true]
  refine wpAny_bind (wpAny_alloc ?_)
  rw [forIn_yield_id [] (fun x hx c => by
    obtain ⟨name, kind⟩ := x
    have : (kind == NameKind.cell) = false := by simpa using hcell _ hx
    simp only [this, Bool.false_eq_true, if_false])]
  refine wpAny_bind (wpAny_pure ?_)
  simp only [List.forIn_nil]
  exact wpAny_bind (wpAny_pure (wpAny_pure h))
end C2
section N1
section
variable {c : Fc} {V V1 V2 V' : View} {p : PV} {f : PF}
noncomputable def ArgsG (c : Fc) (es : List Expr) (V : View) (ps : List PV) (V' : View) : Prop :=
  ∀ (s : Shared) (pos : Pos) (Q : List Value → Shared → Prop) (E : Value → Shared → Prop), Inv c V s → V.objs.length = c.ρ.length → (∀ s' vs T ρ, Grow c s T ρ → V'.objs.length = ρ.length → Inv (c.at T ρ) V' s' → St c.N c.muts s s' → IsL T ρ s'.heap ps vs → Q vs s') → wpAny c.M c.A (spliced (backTo pos (starEach es c.env))) Q E s
theorem ArgsOk.g {es : List Expr} {ps : List PV} (ok : c.Ok) (h : ArgsOk c es V ps V') (hl : V'.objs.length = V.objs.length) : ArgsG c es V ps V' := fun s pos Q E I l k => h s pos Q E I fun s' v I' t i => k s' v _ _ (.refl ok) (hl.trans l) I' t i
theorem Is.grown {T T' : List Addr} {ρ ρ' : List (Addr × Addr)} {s s' : Shared} {v : Value} (ok : (c.at T ρ).Ok) (g : Grow (c.at T ρ) s T' ρ') (t : St c.N (muts c.L ρ) s s') (i : Is T ρ s.heap p v) : Is T' ρ' s'.heap p v := by
  obtain ⟨ν, rfl, _⟩ := g.ext
  exact (i.grow g.fresh).keep (t.keep.sub fun b hb => g.sub b (ok.fx.mem b hb))
theorem argsg_cons {e : Expr} {es : List Expr} {ps : List PV} (he : EvG c e V p V1) (hr : ∀ T ρ, (c.at T ρ).Ok → ArgsG (c.at T ρ) es V1 ps V2) (hs : noStar e = true) : ArgsG c (e :: es) V (p :: ps) V2 := by
  intro s pos Q E I l k
  rw [starEach_cons hs]
  refine Calls.spliced_cons (he s _ E I l fun s1 v T ρ g l1 I1 t1 i1 => ?_)
  exact hr T ρ g.ok s1 pos _ E I1 l1 fun s2 vs T' ρ' g' l2 I2 t2 i2 => k s2 _ T' ρ' (g.trans t1.keep g') l2 I2 (g.keep t1 t2) (.cons (i1.grown g.ok g' t2) i2)
theorem evg_list {es : List Expr} {ps : List PV} {pos : Pos} (ha : ArgsG c es V ps V1) (hz : ps.length ≤ 1000) : EvG c (.List es pos) V (.o V1.objs.length) ⟨V1.loc, V1.objs ++ [.list ps.reverse]⟩ := by
  intro s Q E I l h
  refine List_ (ha s pos _ E I l fun s1 vs T ρ g l1 I1 t1 i1 => ?_)
  have hl := i1.length
  refine wpAny_newObj_type ?_ (by show vs.toArray.size ≤ sizeLine; rw [List.size_toArray, sizeLine_eq]; omega)
  have fr : s1.heap.get? s1.heap.objs.size = none := fresh_get _
  have e := Heap.get?_push_size s1.heap (o := { cls := .type "list", data := .seq vs.toArray }) rfl
  have up : ∀ b o, s1.heap.get? b = some o → (s1.heap.push { cls := .type "list", data := .seq vs.toArray }).get? b = some o := fun b o e => Heap.get?_push_of_some _ e
  have NS := I1.size g.ok
  generalize s1.heap.objs.size = a at *
  generalize s1.heap.push { cls := .type "list", data := .seq vs.toArray } = h' at *
  have k : Keep c.N [] s1.heap h' := .of_all up
  have g2 := grow_one (c := c.at T ρ) (a := a) g.ok I1 fr NS
  refine h { s1 with heap := h' } _ _ _ (g.trans t1.keep g2) (by simp [l1]) (Inv.grow (c := c.at T ρ) (s' := { s1 with heap := h' }) g.ok g2 I1 k (fun b hb => ?_) l1 fun j po ej => ?_) (g.keep t1 ⟨k.all, .refl _, rfl⟩) ?_
  · rcases List.mem_cons.mp hb with rfl | hb
    · exact ⟨_, e⟩
    · obtain ⟨o, eb⟩ := I1.live b hb; exact k.there b o eb
  · cases j with
    | zero =>
      cases ej
      refine ⟨a, vs.toArray, 0, by simp, e, ?_⟩
      exact ((i1.grow g2.fresh).keep k.all).reverse
    | succ j => simp at ej
  · exact .o (m := a) (by rw [l1]; simp)
end
theorem Is.froze {T : List Addr} {ρ : List (Addr × Addr)} {h : Heap} {T0 : List Addr} {k : Nat} {xs : List PV} {v : Value} (i : Is T ρ h (.o k) v) (o : ObjAt T ρ h k (.list xs)) (hs : ∀ b ∈ T0, b ∈ T) (hn : ∀ p ∈ ρ, p.2 ∉ T0) (hx : PV.ltL 0 xs = true) : Is T0 [] h (.l xs.reverse) v := by
  obtain ⟨a, vs, n, e, ea, m⟩ := o
  cases i with
  | o e' =>
    rw [e] at e'; cases e'
    refine .l (hn (a, a) (List.mem_of_getElem? e)) ea rfl rfl ?_
    have m2 := m.reverse
    rw [List.reverse_reverse] at m2
    have hx2 : PV.ltL 0 xs.reverse = true := by
      have : ∀ l : List PV, PV.ltL 0 l = true ↔ ∀ p ∈ l, p.lt 0 = true := by
        intro l
        induction l with
        | nil => simp [PV.ltL]
        | cons a r ih => show (a.lt 0 && PV.ltL 0 r) = true ↔ _; rw [Bool.and_eq_true, ih]; simp
      rw [this] at hx ⊢
      exact fun p hp => hx p (List.mem_reverse.mp hp)
    exact IsL.back (ρ := []) (ν := ρ) hs (by simpa using m2) hx2
end N1
section H1
structure DAt (c : Fc) (s0 : Shared) (It l : Addr) (vs : List Value) (i : Nat) (V : View) (T : List Addr) (ρ : List (Addr × Addr)) (s : Shared) : Prop where
  g : Grow c s0 T ρ
  hT : It ∈ T
  hm : It ∉ muts c.L ρ
  inv : Inv (c.at T ρ) V s
  len : V.objs.length = ρ.length
  st : St c.N c.muts s0 s
  it : s.heap.IsListIter It l i
  ls : s.heap.IsList l vs.toArray
  lT : l ∉ T
section
variable {c : Fc} {s0 s s' : Shared} {It l : Addr} {vs : List Value} {i : Nat} {V V' : View} {T T' : List Addr} {ρ ρ' : List (Addr × Addr)}
theorem DAt.go (a : DAt c s0 It l vs i V T ρ s) (g' : Grow (c.at T ρ) s T' ρ') (l' : V'.objs.length = ρ'.length) (I' : Inv (c.at T' ρ') V' s') (t : St c.N (muts c.L ρ) s s') : DAt c s0 It l vs i V' T' ρ' s' := by
  obtain ⟨ν, eρ, hν⟩ := g'.ext
  have eρ : ρ' = ρ ++ ν := eρ
  have lm : l ∉ muts c.L ρ := fun z => a.lT (a.g.ok.fx.mem _ z)
  refine ⟨a.g.trans a.st.keep g', g'.sub _ a.hT, fun z => ?_, I', l', a.g.keep a.st t, keep_iter t.keep a.hm a.it, keep_list t.keep lm a.ls, fun z => ?_⟩
  · rw [eρ] at z
    rcases List.mem_cons.mp z with z | z
    · exact a.hm (z ▸ .head _)
    · rw [List.map_append] at z
      rcases List.mem_append.mp z with z | z
      · exact a.hm (.tail _ z)
      · obtain ⟨p, hp, q⟩ := List.mem_map.mp z
        obtain ⟨o, e, _⟩ := a.it
        have := hν p hp
        rw [q, e] at this; cases this
  · rcases g'.fresh l z with q | q
    · exact a.lT q
    · obtain ⟨o, e, _⟩ := a.ls; rw [q] at e; cases e
theorem DAt.same (a : DAt c s0 It l vs i V T ρ s) (l' : V'.objs.length = V.objs.length) (I' : Inv (c.at T ρ) V' s') (t : St c.N (muts c.L ρ) s s') : DAt c s0 It l vs i V' T ρ s' :=
  a.go (.refl a.g.ok) (l'.trans a.len) I' t
theorem d_sx {st : Stmt} {r : List Stmt} {f : PF} {Q : Flow → Shared → Prop} {E : Value → Shared → Prop} (a : DAt c s0 It l vs i V T ρ s) (h : SxG (c.at T ρ) st V .next V') (k : ∀ T' ρ' s', DAt c s0 It l vs i V' T' ρ' s' → wpAny c.M c.A (execs r c.env) Q E s') : wpAny c.M c.A (execs (st :: r) c.env) Q E s :=
  wpAny_execs_cons (h s _ E a.inv a.len fun s1 fl T' ρ' g' l' I' t hf => by cases hf; exact k T' ρ' s1 (a.go g' l' I' t))
structure BAt (c : Fc) (s0 : Shared) (V : View) (T : List Addr) (ρ : List (Addr × Addr)) (s : Shared) : Prop where
  g : Grow c s0 T ρ
  inv : Inv (c.at T ρ) V s
  len : V.objs.length = ρ.length
  st : St c.N c.muts s0 s
theorem BAt.go (a : BAt c s0 V T ρ s) (g' : Grow (c.at T ρ) s T' ρ') (l' : V'.objs.length = ρ'.length) (I' : Inv (c.at T' ρ') V' s') (t : St c.N (muts c.L ρ) s s') : BAt c s0 V' T' ρ' s' := ⟨a.g.trans a.st.keep g', I', l', a.g.keep a.st t⟩
theorem DAt.b (a : DAt c s0 It l vs i V T ρ s) : BAt c s0 V T ρ s := ⟨a.g, a.inv, a.len, a.st⟩
theorem b_sx {st : Stmt} {r : List Stmt} {Q : Flow → Shared → Prop} {E : Value → Shared → Prop} (a : BAt c s0 V T ρ s) (h : SxG (c.at T ρ) st V .next V') (k : ∀ T' ρ' s', BAt c s0 V' T' ρ' s' → wpAny c.M c.A (execs r c.env) Q E s') : wpAny c.M c.A (execs (st :: r) c.env) Q E s :=
  wpAny_execs_cons (h s _ E a.inv a.len fun s1 fl T' ρ' g' l' I' t hf => by cases hf; exact k T' ρ' s1 (a.go g' l' I' t))
end
theorem for_goD {c : Fc} {x : Str} {px : Pos} {body : List Stmt} {It l : Addr} {vs : List Value} {ns : List Int} {s0 s : Shared} {T : List Addr} {ρ : List (Addr × Addr)} {V : View} {Q : Flow → Shared → Prop} {E : Value → Shared → Prop} (J : Nat → View → Prop) (hh : c.A.handled = none) (hk : c.env.kindOf x = some .local) (nI : s0.heap.get? It = none) (nT : It ∉ c.T) (hlen : vs.length = ns.length) (hv : ∀ (i : Nat) (n : Int), ns[i]? = some n → ∃ t, vs[i]? = some (.int n t))
    (step : ∀ (i : Nat) (n : Int) (V : View) (T : List Addr) (ρ : List (Addr × Addr)) (s : Shared) (E : Value → Shared → Prop), ns[i]? = some n → J i V → DAt c s0 It l vs (i + 1) { V with loc := put x (.i n) V.loc } T ρ s → wpAny c.M c.A (execs body c.env) (fun fl s' => fl = .next ∧ ∃ V' T' ρ', J (i + 1) V' ∧ DAt c s0 It l vs (i + 1) V' T' ρ' s') E s)
    (a : DAt c s0 It l vs 0 V T ρ s) (j0 : J 0 V) (k : ∀ V' T' ρ' s', J ns.length V' → BAt c s0 V' T' ρ' s' → Q .next s') :
    codeAny c.M c.A (.forLoop (.Name x px) (.ref It) body [] c.env) (fun r s' => match r with | .ok f => Q f s' | .error e => cameBackBy c.M c.A c.env E e s') s := by
  refine codeAny_forLoop (fun n s' => ∃ i V T ρ, n = ns.length + 1 - i ∧ i ≤ ns.length ∧ J i V ∧ DAt c s0 It l vs i V T ρ s') ?_ (ns.length + 1) ⟨0, V, T, ρ, rfl, Nat.zero_le _, j0, a⟩
  rintro n s' ⟨i, V, T, ρ, rfl, hi, ji, a⟩
  have nL : l ≠ It := fun q => a.lT (q ▸ a.hT)
  have cI : ∃ o, s'.heap.get? It = some o ∧ o.cls ≠ .type "frame" := by obtain ⟨o, e, c, _⟩ := a.it; exact ⟨o, e, by rw [c]; decide⟩
  cases hn : ns[i]? with
  | none =>
    have hin : i = ns.length := Nat.le_antisymm hi (List.getElem?_eq_none_iff.mp hn)
    refine wpAny_pyNext_list_end hh a.it a.ls (by rw [List.getElem?_toArray, hin, ← hlen]; exact List.getElem?_eq_none_iff.mpr (Nat.le_refl _)) fun h' xb => wpAny_execs_nil ?_
    subst hin
    exact k V _ ρ _ ji ⟨a.g.off a.hm nT, a.inv.off a.g.ok a.hT a.hm (.of a.inv.frs cI) xb, a.len, a.st.off nI xb⟩
  | some n =>
    have hlt : i < ns.length := (List.getElem?_eq_some_iff.mp hn).1
    obtain ⟨t, ev⟩ := hv i n hn
    refine wpAny_pyNext_list_item a.it a.ls (x := .int n t) (by simpa using ev) fun h1 it1 sb1 => ?_
    have kI : Keep c.N [It] s'.heap h1 := by obtain ⟨o1, e1, _⟩ := it1; exact .sameBut sb1 e1 (.head _)
    have I1 := a.inv.touch (c := c.at T ρ) a.g.ok a.hT a.hm cI kI
    have st1 := a.st.touch nI kI
    have ls1 : h1.IsList l vs.toArray := keep_list kI (fun z => nL (List.mem_singleton.mp z)) a.ls
    have a1 : DAt c s0 It l vs (i + 1) V T ρ { s' with heap := h1 } := ⟨a.g, a.hT, a.hm, I1, a.len, st1, it1, ls1, a.lT⟩
    refine wpAny_assign_Name (store_name (c := c.at T ρ) (p := .i n) a.g.ok hk I1 (.i n t) fun s2 I2 t2 => ?_)
    have a2 : DAt c s0 It l vs (i + 1) { V with loc := put x (.i n) V.loc } T ρ s2 := a1.same rfl I2 t2
    refine wpAny_mono (step i n V T ρ s2 _ hn ji a2) (fun fl s3 h3 => ?_) fun _ _ e => e
    obtain ⟨rfl, V', T', ρ', j', a'⟩ := h3
    exact ⟨_, ndec hlt, i + 1, V', T', ρ', rfl, hlt, j', a'⟩
end H1
section H2
section
variable {c : Fc} {V V1 V2 : View} {p r : PV} {P : List Prop}
theorem evg_lmeth {b : Expr} {n : Str} {apos pos : Pos} {es : List Expr} {xs0 xs xs' ps : List PV} {k : Nat} (ok : c.Ok) (hb : attributeBase b n c.env (eval b c.env) = eval b c.env) (hy : EvOk c b V (.o k) V) (ho1 : V.objs[k]? = some (.list xs0)) (hl : (apos.endLine == pos.line) = true) (hs : es.all noStar = true) (h30 : es.length < 30)
    (ha : ArgsG c es V ps V2) (ho : V2.objs[k]? = some (.list xs)) (e : lmP n xs ps = some (r, xs', P)) (hP : AllP P) : EvG c (.Call (.Attribute b n apos) es [] pos) V r { V2 with objs := V2.objs.set k (.list xs') } := by
  intro s Q E I l h
  rw [mc_eq hb hl hs h30]
  refine wpAny_bind (hy s _ E I fun s1 v I1 t1 i1 => wpAny_bind (wpAny_standAt (wpAny_bind (wpAny_holding ?_))))
  obtain ⟨D, m, rfl, e1⟩ := i1.io
  obtain ⟨D', vs, n1, e2, ea, im⟩ := I1.rep.objs k _ ho1
  rw [e1] at e2; cases e2
  refine lm_get e ea ?_
  refine callWith_of (P := c.K.In) (by rw [starEach_any hs]; rfl) (keeps_ok (lm_keep c.K)) (evalArgs_any (starEach_any hs) ?_)
  refine ha s1 pos _ E I1 l fun s2 us T ρ g l2 I2 t2 i2 => ⟨I2.base.k, ?_⟩
  have e1' : ρ[k]? = some (D, D) := by
    obtain ⟨ν, rfl, _⟩ := g.ext
    rw [List.getElem?_append_left (List.getElem?_eq_some_iff.mp e1).1]; exact e1
  obtain ⟨D', vs2, n2, e2, ea2, im2⟩ := I2.rep.objs k _ ho
  rw [show (c.at T ρ).ρ[k]? = some (D, D) from e1'] at e2; cases e2
  exact lm_call (c := c.at T ρ) g.ok I2 e1' e hP ea2 im2 i2 fun s3 x I3 t3 ix => h s3 x T ρ (g.from t1.keep) (by simpa using l2) I3 (t1.trans (g.keep t2 t3)) (ix.st (c := c.at T ρ) g.ok t3)
end
theorem sxg_expr {c : Fc} {V V1 : View} {p : PV} {e : Expr} {pos : Pos} (ok : c.Ok) (he : EvG c e V p V1) (hc : notComp e = true) : SxG c (.Expr e pos) V .next V1 := fun s Q E I l k => wpAny_Expr_any (he s _ E I l fun s1 v T ρ g l1 I1 t1 i1 => k s1 _ T ρ g l1 I1 t1 rfl) (by unfold interactive; rw [ok.kind]; rfl) (swaps_no hc)
section
variable {c : Fc} {s0 s s' : Shared} {It l : Addr} {vs : List Value} {i : Nat} {V V' : View} {T T' : List Addr} {ρ ρ' : List (Addr × Addr)}
theorem d_if {t : Expr} {b : Bool} {bd el : List Stmt} {pos : Pos} {Q : Flow → Shared → Prop} {E : Value → Shared → Prop} (a : DAt c s0 It l vs i V T ρ s) (ht : TvOk (c.at T ρ) t V b V) (k : ∀ s', DAt c s0 It l vs i V T ρ s' → wpAny c.M c.A (execs (if b then bd else el) c.env) (fun fl s' => fl = .next ∧ Q fl s') E s') : wpAny c.M c.A (execs [.If t bd el pos] c.env) (fun fl s' => fl = .next ∧ Q fl s') E s := by
  refine wpAny_execs_cons (wpAny_If (ht s _ E a.inv fun s1 I1 t1 => ?_))
  have h := k s1 (a.same rfl I1 t1)
  cases b <;> exact wpAny_mono h (fun fl s2 h2 => by obtain ⟨rfl, h2⟩ := h2; exact wpAny_execs_nil ⟨rfl, h2⟩) fun _ _ e => e
theorem DAt.drop {L r : List (Str × PV)} {objs : List PO} (a : DAt c s0 It l vs i ⟨L ++ r, objs⟩ T ρ s) : DAt c s0 It l vs i ⟨L, objs⟩ T ρ s := ⟨a.g, a.hT, a.hm, a.inv.drop, a.len, a.st, a.it, a.ls, a.lT⟩
end
end H2
section BL
noncomputable def absP (ps : List PV) : VP := (one ps).bind fun p => (isI p).map fun n => (.i (n.natAbs : Int), [])
noncomputable def chrP (ps : List PV) : VP := (one ps).bind fun p => (isI p).map fun n => (.s ⟨#[n.toNat]⟩, [0 ≤ n, n ≤ 1114111])
theorem absP_ok {c : Fc} {ps : List PV} {objs : List PO} {r : PV} {P : List Prop} (h : absP ps = some (r, P)) : CallOk c (.builtin "abs") ps objs r objs := by
  obtain ⟨p, hp, h⟩ := ob h
  rw [one_is hp]
  obtain ⟨n, e1, e2⟩ := map_some h
  cases e2
  rw [isI_is e1]
  refine callOk_pure fun s vs Q E ia hq => ?_
  obtain ⟨v, rfl, i⟩ := isL1 ia
  obtain ⟨t, rfl⟩ := i.ii
  refine call_abs_int fun u tk => ?_
  have e : (if n < 0 then -n else n) = (n.natAbs : Int) := by split <;> omega
  rw [e]
  exact hq _ _ (.i _ _)
theorem chrP_ok {c : Fc} {ps : List PV} {objs : List PO} {r : PV} {P : List Prop} (h : chrP ps = some (r, P)) (hP : AllP P) : CallOk c (.builtin "chr") ps objs r objs := by
  obtain ⟨p, hp, h⟩ := ob h
  rw [one_is hp]
  obtain ⟨n, e1, e2⟩ := map_some h
  cases e2
  rw [isI_is e1]
  refine callOk_pure fun s vs Q E ia hq => ?_
  obtain ⟨v, rfl, i⟩ := isL1 ia
  obtain ⟨t, rfl⟩ := i.ii
  exact chr_of_range hP.1 hP.2.1 (hq _ _ (.s _ _))
noncomputable def POrc.abs (W : Wd) (D : Nat) : POrc W D := ⟨fun f ps objs => if f = .builtin "abs" then absP ps else .none, fun f ps objs r P h => by
  obtain ⟨g, h⟩ := oi h
  subst g
  exact ⟨rfl, fun hP c ok e room => absP_ok h⟩⟩
noncomputable def POrc.chr (W : Wd) (D : Nat) : POrc W D := ⟨fun f ps objs => if f = .builtin "chr" then chrP ps else .none, fun f ps objs r P h => by
  obtain ⟨g, h⟩ := oi h
  subst g
  exact ⟨rfl, fun hP c ok e room => chrP_ok h hP⟩⟩
noncomputable abbrev iS (ns : List Int) : List PV := ns.map PV.i
theorem ints_all {T : List Addr} {ρ : List (Addr × Addr)} {h : Heap} : ∀ {ns : List Int} {vs : List Value}, IsL T ρ h (iS ns) vs → (∀ v, v ∈ vs → ∃ a t, v = Value.int a t) ∧ numsOf vs = ns
  | [], _, .nil => ⟨(fun _ h => nomatch h), rfl⟩
  | a :: r, _, .cons x y => by
    obtain ⟨u, rfl⟩ := Is.ii x
    obtain ⟨h1, h2⟩ := ints_all y
    exact ⟨fun v hv => by rcases List.mem_cons.mp hv with rfl | hv; exact ⟨_, _, rfl⟩; exact h1 v hv, by rw [show numsOf (Value.int a u :: _) = a :: numsOf _ from rfl, h2]⟩
theorem spec_sum (W : Wd) (ns : List Int) : SpecP W 1 (.builtin "sum") [.l (iS ns)] (.i ns.sum) := by
  rintro objs c ok e room s vs Q E B live frs O ia hq
  obtain ⟨v, rfl, i⟩ := isL1 ia
  obtain ⟨a, ob, arr, n, z, il⟩ := i.il
  have hv := z.v
  subst hv
  obtain ⟨h1, h2⟩ := ints_all il
  have hall : AllInts arr := fun v hv => h1 v (by simpa using hv)
  obtain ⟨xs, rfl⟩ := hall.items
  rw [nums_intItems] at h2
  refine sum_intListG room.handled z.isList fun h' tk t' hk => ?_
  have kp : Keep c.N [] s.heap h' := .of_all hk
  rw [preSum_eq, List.take_of_length_le (by simp), h2]
  exact hq { s with heap := h', toks := tk } _ ⟨kp.all, .refl _, rfl⟩ (B.keep (T := []) ok.lowK (fun _ h => nomatch h) ok.lo kp) (frs.keep kp) (fun j po ej => (O j po ej).keep kp (fun _ _ _ z => nomatch z) (fun _ z => nomatch z) kp.all) (.i _ _)
structure RAt (c : Fc) (s0 : Shared) (It : Addr) (N i : Nat) (V : View) (s : Shared) : Prop where
  inv : Inv (c.at (It :: c.T) c.ρ) V s
  st : St c.N c.muts s0 s
  it : IsRangeIter s.heap It (i : Int) ((N : Int) - i) 1
theorem range_go {c : Fc} {x : Str} {px : Pos} {body : List Stmt} {It : Addr} {N : Nat} {s0 s : Shared} {Vs : Nat → View} {Q : Flow → Shared → Prop} {E : Value → Shared → Prop} (ok : (c.at (It :: c.T) c.ρ).Ok) (hh : c.A.handled = none) (hk : c.env.kindOf x = some .local) (nI : s0.heap.get? It = none) (nT : It ∉ c.T) (hm : It ∉ c.muts)
    (step : ∀ i, i < N → ∀ T, (c.at T c.ρ).Ok → ExOk (c.at T c.ρ) body ⟨put x (.i i) (Vs i).loc, (Vs i).objs⟩ .next (Vs (i + 1)))
    (a : RAt c s0 It N 0 (Vs 0) s) (k : ∀ s', Inv c (Vs N) s' → St c.N c.muts s0 s' → Q .next s') :
    codeAny c.M c.A (.forLoop (.Name x px) (.ref It) body [] c.env) (fun r s' => match r with | .ok f => Q f s' | .error e => cameBackBy c.M c.A c.env E e s') s := by
  refine codeAny_forLoop (fun n s' => ∃ i, n = N + 1 - i ∧ i ≤ N ∧ RAt c s0 It N i (Vs i) s') ?_ (N + 1) ⟨0, rfl, Nat.zero_le _, a⟩
  rintro n s' ⟨i, rfl, hi, a⟩
  have cI : ∃ o, s'.heap.get? It = some o ∧ o.cls ≠ .type "frame" := ⟨_, a.it, by show Value.type "range_iterator" ≠ _; decide⟩
  by_cases hlt : i < N
  · refine wpAny_pyNext_range_item a.it (by omega) fun h1 it1 sb1 => ?_
    have kI : Keep c.N [It] s'.heap h1 := .sameBut sb1 it1 (.head _)
    have I1 := (a.inv.touch (c := c.at (It :: c.T) c.ρ) ok (.head _) hm cI kI).toks (s'.toks + 1)
    have st1 := (a.st.touch nI kI).trans (.toks (s := { s' with heap := h1 }) (s'.toks + 1))
    refine wpAny_assign_Name (store_name (c := c.at (It :: c.T) c.ρ) (p := .i i) ok hk I1 (.i _ _) fun s2 I2 t2 => ?_)
    refine step i hlt (It :: c.T) ok s2 _ _ I2 fun s3 fl I3 t3 hf => ?_
    cases hf
    have t23 := t2.trans t3
    refine ⟨_, ndec hlt, i + 1, rfl, hlt, I3, st1.trans t23, ?_⟩
    have e1 : ((i + 1 : Nat) : Int) = (i : Int) + 1 := rfl
    have e2 : (N : Int) - ((i + 1 : Nat) : Int) = (N : Int) - i - 1 := by omega
    rw [e2, e1]
    exact t23.keep.exact hm it1 (by show Value.type "range_iterator" ≠ _; decide) (by show Value.type "range_iterator" ≠ _; decide)
  · have hin : i = N := Nat.le_antisymm hi (Nat.not_lt.mp hlt)
    subst hin
    refine wpAny_pyNext_range_end hh a.it (by omega) fun h' xb => wpAny_execs_nil ?_
    have J := a.inv.off ok (.head _) hm (.of a.inv.frs cI) xb
    have eT : lessA (It :: c.T) It = c.T := by
      have nIt : ∀ b ∈ c.T, (b != It) = true := fun b hb => bne_iff_ne.mpr fun q => nT (q ▸ hb)
      unfold lessA
      rw [List.filter_cons, bne_self_eq_false It, List.filter_eq_self.mpr nIt]
      rfl
    rw [eT] at J
    exact k _ J (a.st.off nI xb)
theorem sx_for_range {c : Fc} {V : View} {g x : Str} {gp px cp fp : Pos} {e : Expr} {body : List Stmt} {N : Nat} {Vs : Nat → View} (ok : c.Ok) (hh : c.A.handled = none) (hk : c.env.kindOf x = some .local) (hg : EvOk c (.Name g gp) V (.v (.type "range")) V) (hs : noStar e = true) (ha : EvOk c e V (.i (N : Int)) V) (hN : N ≤ 1000)
    (hf : ∀ y, foldedSetIterable (.Call (.Name g gp) [e] [] cp) c.env y = pure y) (h0 : Vs 0 = V) (step : ∀ i, i < N → ∀ T, (c.at T c.ρ).Ok → ExOk (c.at T c.ρ) body ⟨put x (.i i) (Vs i).loc, (Vs i).objs⟩ .next (Vs (i + 1))) : SxOk c (.For (.Name x px) (.Call (.Name g gp) [e] [] cp) body [] fp) V .next (Vs N) := by
  intro s Q E I k
  refine wpAny_For (wpAny_Call_NameR (hg s _ E I fun s1 v I1 t1 i1 => ?_)) hf
  cases i1
  refine callWith_ok (first := []) rfl (by show (noStar e && true) = true; rw [hs]; rfl) (args_cons ok ha args_nil hs) I1 fun s2 vs I2 t2 i2 => ?_
  obtain ⟨v, rfl, i⟩ := isL1 i2
  obtain ⟨t, rfl⟩ := i.ii
  refine call_range_1 ?_
  have I3 := I2.pushed ok { cls := .type "range", data := .fields #[.int 0 s2.toks, .int (N : Int) t, .int 1 (s2.toks + 1)] } (s2.toks + 1 + 1)
  have t3 : St c.N c.muts s { s2 with heap := s2.heap.push { cls := .type "range", data := .fields #[.int 0 s2.toks, .int (N : Int) t, .int 1 (s2.toks + 1)] }, toks := s2.toks + 1 + 1 } := (t1.trans t2).trans (.pushed _ _)
  have hr := Heap.get?_push_size s2.heap (o := { cls := .type "range", data := .fields #[.int 0 s2.toks, .int (N : Int) t, .int 1 (s2.toks + 1)] }) rfl
  generalize s2.heap.push { cls := .type "range", data := .fields #[.int 0 s2.toks, .int (N : Int) t, .int 1 (s2.toks + 1)] } = h3 at *
  refine wpAny_pyIter_range (a := 0) (b := (N : Int)) (c := 1) hr (small_one (by decide) (by decide) (by omega) (by omega)) ?_
  have O := own_new (c := c) (ob := { cls := .type "range_iterator", data := .fields #[rawInt 0, rawInt (Builtin.Range.rangeSize 0 (N : Int) 1), rawInt 1] }) ok I3 (Heap.get?_push_size _ rfl)
  have e0 : Builtin.Range.rangeSize 0 (N : Int) 1 = (N : Int) - ((0 : Nat) : Int) := by rw [rangeSize_one]; split <;> omega
  rw [e0] at O ⊢
  have nI : s.heap.get? h3.objs.size = none := by
    cases q : s.heap.get? h3.objs.size with
    | none => rfl
    | some o => obtain ⟨o', e'⟩ := t3.keep.there _ o q; rw [show h3.get? h3.objs.size = none from O.no] at e'; cases e'
  exact range_go (Vs := Vs) (s0 := s) O.ok hh hk nI O.hT O.hm step (h0 ▸ ⟨O.inv, t3.trans O.st, O.at_⟩) fun s4 I4 t4 => k s4 _ I4 t4 rfl
end BL
section LM1
structure FnGood (F : FuncData) (body : Expr) : Prop where
  body : F.body = .expr body
  glb : F.globals = mainGlobals
  clo : F.closure = []
  blt : F.builtins = builtinsNs
  cell : ∀ x ∈ F.scope.names, x.2 ≠ .cell
  co : F.scope.isCoroutine = false
  gen : F.scope.isGenerator = false
  kind : F.scope.kind = .function
noncomputable abbrev fnData (F : FuncData) (c : Addr) (pm ct : Value) : FuncData := { F with code := .ref c, pyModule := pm, closureTuple := ct }
theorem fn_subc {c : Fc} (ok : c.Ok) {e : Env} {h : Heap} (live : ∀ b ∈ c.T, ∃ o, h.get? b = some o) (hk : e.scope.kind = .function) (hl : e.locals = h.objs.size) (hg : e.globals = mainGlobals) (hb : e.builtins = builtinsNs) : (c.sub e h.objs.size).Ok := by
  have nL : h.objs.size ∉ c.T := fun hb => by obtain ⟨o, e⟩ := live _ hb; rw [fresh_size] at e; cases e
  refine ⟨⟨fun b hb => ?_, ?_, fun b hb => ?_⟩, hk, hl, hg, hb, ok.lowK, ok.lo⟩
  · rcases List.mem_cons.mp hb with rfl | hb
    · exact .head _
    · exact .tail _ (ok.fx.mem b (.tail _ hb))
  · exact List.nodup_cons.mpr ⟨fun hb => nL (ok.fx.mem _ (.tail _ hb)), (List.nodup_cons.mp ok.fx.nodup).2⟩
  · rcases List.mem_cons.mp hb with rfl | hb
    · exact ok.size live
    · exact ok.fx.low b hb
theorem fn_inv {c : Fc} (ok : c.Ok) {e : Env} (hk : e.scope.kind = .function) (hfr : e.frame = some e.locals) {s : Shared} {h' : Heap} {objs : List PO} {loc : List (Str × PV)} {m : Str → Option Value} {t : Nat} (hl : e.locals = s.heap.objs.size) (B : Base c.K c.N s.heap) (live : ∀ b ∈ c.T, ∃ o, s.heap.get? b = some o) (frs : Frs c.N c.A s.heap) (O : ObjsOk c.T c.ρ objs s.heap) (k' : ∀ b o, s.heap.get? b = some o → h'.get? b = some o) (F' : FrameAt h' s.heap.objs.size m) (z : LocOk (s.heap.objs.size :: c.T) c.ρ s.heap loc m) : Inv (c.sub e s.heap.objs.size) ⟨loc, objs⟩ { s with heap := h', toks := t } := by
  have kk : Keep c.N [] s.heap h' := .of_all k'
  refine ⟨⟨⟨_, F', fun x p e => let ⟨v, e1, e2⟩ := z x p e; ⟨v, e1, e2.keep kk.all⟩⟩, fun k po e => ((O k po e).more fresh_size).keep kk (fun _ _ _ z => nomatch z) (fun _ z => nomatch z) kk.all⟩, B.keep (T := []) ok.lowK (fun _ h => nomatch h) ok.lo kk, fun b hb => ?_, ?_⟩
  · rcases List.mem_cons.mp hb with rfl | hb
    · obtain ⟨o, e, _⟩ := F'.cls; exact ⟨o, e⟩
    · obtain ⟨o, e⟩ := live b hb; exact ⟨o, k' b o e⟩
  · obtain ⟨fs, q, hf⟩ := frs.keep kk
    refine ⟨e :: fs, by show (c.A.frames.map _) = _; rw [q]; rfl, fun env he => ?_⟩
    rcases List.mem_cons.mp he with rfl | he
    · exact ⟨by rw [hk]; decide, _, _, hfr, by rw [hl]; exact ok.size live, by rw [hl]; exact F'⟩
    · exact hf env he
theorem call_fn {W : Wd} {D : Nat} {F : FuncData} {body : Expr} {ps : List PV} {objs objs' : List PO} {r : PV} {loc : List (Str × PV)} (fg : FnGood F body) (nd : (loc.map (·.1)).Nodup) (hl : ∀ x ∈ loc.map (·.1), F.scope.names.lookup x = some .local)
    (hbind : ∀ (T : List Addr) (ρ : List (Addr × Addr)) (h : Heap) (vs : List Value), IsL T ρ h ps vs → ∀ cd pm ct, ∃ binds, runPure W.K 30 (bindArgs (fnData F cd pm ct) ⟨vs, []⟩) = some binds ∧ binds.map (·.1) = loc.map (·.1) ∧ IsL T ρ h (loc.map (·.2)) (binds.map (·.2)))
    (hrun : ∀ c : Fc, c.Ok → c.toWd = W → Room c.A.in1 D → c.env.scope = F.scope → ∃ V', EvOk c body ⟨loc, objs⟩ r V' ∧ V'.objs = objs')
    (c : Fc) (ok : c.Ok) (e : c.toWd = W) (room : Room c.A (D + 1)) {s : Shared} {fv : Value} {vs : List Value} {R : Result → Shared → Prop} (ifn : Is c.T c.ρ s.heap (.fn F) fv) (B : Base c.K c.N s.heap) (live : ∀ b ∈ c.T, ∃ o, s.heap.get? b = some o) (frs : Frs c.N c.A s.heap) (O : ObjsOk c.T c.ρ objs s.heap) (ia : IsL c.T c.ρ s.heap ps vs)
    (hq : ∀ s' v, St c.N (mutsOf c.ρ) s s' → Base c.K c.N s'.heap → Frs c.N c.A s'.heap → ObjsOk c.T c.ρ objs' s'.heap → Is c.T c.ρ s'.heap r v → R (.ok (.ret v)) s') : codeAny c.M c.A (.call fv ⟨vs, []⟩) R s := by
  subst e
  cases ifn with
  | @fn a cd ob co _ ha ho hf hc hco hcb =>
    obtain ⟨_, pm, ct, hd⟩ := hf
    obtain ⟨_, us, t, hu, hq1⟩ := hcb
    obtain ⟨binds, hb1, hb2, hb3⟩ := hbind _ _ _ _ ia cd pm ct
    refine kla_callFunE (fd := fnData F cd pm ct) (rd0 room.depth) ho hd fg.co fg.gen fg.body ⟨cd, co, us, t, rfl, hco, hu, hq1⟩ ?_
    refine runPure_sound B.k hb1 ?_
    have eb : newFunctionEnv F.scope F.globals F.closure binds (F.qualname ++ ".<locals>.") (some a) (.ref cd) none F.builtins = newFunctionEnv F.scope F.globals [] binds (F.qualname ++ ".<locals>.") (some a) (.ref cd) none F.builtins := by rw [fg.clo]
    show wpAny _ _ (newFunctionEnv F.scope F.globals F.closure binds (F.qualname ++ ".<locals>.") (some a) (.ref cd) none F.builtins) _ _ _
    rw [eb]
    simp only [newFunctionEnv, Option.isSome_none, Bool.false_eq_true, if_false]
    refine wpAny_bind (wpAny_alloc ?_)
    rw [forIn_yield_id ([] : List (Str × Addr)) (fun x hx c => by
      obtain ⟨name, kind⟩ := x
      have : (kind == NameKind.cell) = false := by simpa using fg.cell _ hx
      simp only [this, Bool.false_eq_true, if_false])]
    refine wpAny_bind (wpAny_pure (wpAny_bind ?_))
    have fresh : ∀ h' : Heap, Heap.SameBut s.heap.objs.size (s.heap.push { cls := .type "frame", data := .dict #[] }) h' → ∀ b o, s.heap.get? b = some o → h'.get? b = some o := fun h' sb b o e =>
      (sb.2 b (Nat.ne_of_lt (Heap.lt_size e))).trans (Heap.get?_push_of_some _ e)
    refine bind_loop (L := s.heap.objs.size) (env := { scope := F.scope, locals := s.heap.objs.size, globals := F.globals, cells := [], qual := F.qualname ++ ".<locals>.", func := some a, code := .ref cd, frame := some s.heap.objs.size, builtins := F.builtins }) rfl fg.kind _ (fun _ _ => rfl) binds { s with heap := s.heap.push { cls := .type "frame", data := .dict #[] } } (fun _ => none) ⟨Heap.Ns.new .., ⟨_, Heap.get?_push_size _ rfl, rfl⟩⟩ (fun x hx => hl _ (hb2 ▸ List.mem_map_of_mem hx)) fun h' F' S' => ?_
    have k' := fresh h' S'
    have eF : (fun x => (List.lookup x binds.reverse).or none) = fun x => binds.reverse.lookup x := by funext x; cases List.lookup x binds.reverse <;> rfl
    rw [eF] at F'
    have z := loc_binds hb2 (hb3.more fresh_size) nd
    refine wpAny_pure ⟨B.lim.keeps k', kla_codeExpr ?_⟩
    obtain ⟨V', hx, rfl⟩ := hrun (c.sub { scope := F.scope, locals := s.heap.objs.size, globals := F.globals, cells := [], qual := F.qualname ++ ".<locals>.", func := some a, code := .ref cd, frame := some s.heap.objs.size, builtins := F.builtins } s.heap.objs.size) (fn_subc ok live fg.kind rfl fg.glb fg.blt) rfl room.deeper rfl
    refine hx _ _ _ (fn_inv ok fg.kind rfl rfl B live frs O k' F' z) fun s' v I'' st iv => ?_
    exact hq s' v (sub_st k' st) I''.base (frs_sub frs I''.frs) (fun k po e => (I''.rep.objs k po e).less) iv.less
theorem ev_callF {c : Fc} {V V1 : View} {F : FuncData} {x : Str} {px pos : Pos} {es : List Expr} {ps : List PV} {r : PV} {objs' : List PO} (ok : c.Ok) (hx : EvOk c (.Name x px) V (.fn F) V) (hs : es.all noStar = true) (ha : ArgsOk c es V ps V1)
    (hc : ∀ (s : Shared) (fv : Value) (vs : List Value) (R : Result → Shared → Prop), Is c.T c.ρ s.heap (.fn F) fv → Base c.K c.N s.heap → (∀ b ∈ c.T, ∃ o, s.heap.get? b = some o) → Frs c.N c.A s.heap → ObjsOk c.T c.ρ V1.objs s.heap → IsL c.T c.ρ s.heap ps vs → (∀ s' v, St c.N (mutsOf c.ρ) s s' → Base c.K c.N s'.heap → Frs c.N c.A s'.heap → ObjsOk c.T c.ρ objs' s'.heap → Is c.T c.ρ s'.heap r v → R (.ok (.ret v)) s') → codeAny c.M c.A (.call fv ⟨vs, []⟩) R s) :
    EvOk c (.Call (.Name x px) es [] pos) V r { V1 with objs := objs' } := by
  intro s Q E I h
  refine wpAny_Call_NameR (hx s _ E I fun s1 v I1 t1 i1 => ?_)
  have i1' := i1
  cases i1 with
  | @fn a cd ob co _ ha' ho hf hc' hco hcb =>
    obtain ⟨hcls, pm, ct, hd⟩ := hf
    have hk : keepIn [(a, ob)] (.ref a) = true := by
      obtain ⟨c0, d0, dt, sl⟩ := ob
      cases hd
      unfold keepIn
      simp [List.lookup]
    refine callWith_of (P := Frag.In [(a, ob)]) (by rw [starEach_any hs]; rfl) (keeps_K (K := [(a, ob)]) (f := .ref a) hk) (evalArgs_any (starEach_any hs) ?_)
    refine ha s1 pos _ E I1 fun s2 vs I2 t2 i2 => ⟨?_, ?_⟩
    · have j := i1'.st ok t2
      cases j with
      | @fn _ cd2 ob2 _ _ _ ho2 _ _ _ _ =>
        have ne : ob.cls ≠ .type "frame" ∧ ob.cls ≠ .none := ⟨by rw [hcls]; decide, by rw [hcls]; decide⟩
        have e2 : s2.heap.get? a = some ob := (t2.keep.sub ok.mutsT).exact ha' ho ne.1 ne.2
        intro b o e
        have e : List.lookup b [(a, ob)] = some o := e
        rw [List.lookup_cons] at e
        split at e
        · rename_i g; cases e; rw [beq_iff_eq.mp g]; exact e2
        · cases e
    · refine wpAny_call (hc s2 (.ref a) _ _ (i1'.st ok t2) I2.base I2.live I2.frs I2.rep.objs i2 fun s3 v t3 B3 F3 O3 i3 => ?_)
      exact h s3 v (I2.called ok t3 B3 F3 O3) ((t1.trans t2).trans (t3.sub mutsOf_sub)) i3
end LM1
section LM2
structure LamStep (s s' : Shared) : Prop where
  keep : ∀ b o, b ≠ lamTab → s.heap.get? b = some o → s'.heap.get? b = some o
  tab : ∃ more, s'.heap.get? lamTab = some (X.tableObj more)
  gens : s'.gens = s.gens
  os : s'.os = s.os
noncomputable abbrev lamF (qual : Str) (args : Arguments) (body : Expr) (scope : Scope) : FuncData := kla_fn "<lambda>" (qual ++ "<lambda>") args body scope [] .none .none .none
theorem lam_inv {c : Fc} {s : Shared} {h2 : Heap} {tk : Nat} {loc : List (Str × PV)} {more : Array Value} (ok : c.Ok) (I : Inv c ⟨loc, []⟩ s) (ht : s.heap.get? lamTab = some (X.tableObj #[])) (hl : lamTab < c.N) (kk : ∀ b o, b ≠ lamTab → s.heap.get? b = some o → h2.get? b = some o) (tab : h2.get? lamTab = some (X.tableObj more)) (tr : TriplesOk more.toList) (KIn : c.K.In h2) (lim : h2.NoLimit) : Inv c ⟨loc, []⟩ { s with heap := h2, toks := tk } := by
  have lowT : ∀ b, c.N ≤ b → b ≠ lamTab := fun b hb q => by rw [q] at hb; exact absurd hl (Nat.not_lt.mpr hb)
  have fFr : ∀ {L : Addr} {m : Str → Option Value}, c.N ≤ L → FrameAt s.heap L m → FrameAt h2 L m := fun hL f => by
    obtain ⟨o, e, q⟩ := f.cls
    exact ⟨f.ns.at' fun o e => kk _ o (lowT _ hL) e, o, kk _ o (lowT _ hL) e, q⟩
  have to : IsTo c.T c.T c.ρ c.ρ s.heap h2 := ⟨fun a ob n e h1 h2 => ⟨n, kk a ob (fun q => by
    rw [q, ht] at e; cases e; exact h2 rfl) e⟩, fun _ _ _ e => e⟩
  obtain ⟨m, hn, lo⟩ := I.rep.ns
  refine ⟨⟨⟨m, fFr (ok.fx.low _ (ok.fx.mem _ (.head _))) hn, fun x p e => let ⟨v, e1, e2⟩ := lo x p e; ⟨v, e1, e2.to to⟩⟩, fun k po e => no e⟩, ⟨KIn, ?_, lim, fun a o P e t => ?_⟩, fun b hb => ?_, ?_⟩
  · obtain ⟨mb, h1, h2⟩ := I.base.b
    exact ⟨mb, h1.at' fun o e => kk _ o (by decide) e, h2⟩
  · obtain ⟨ps, h1, h2⟩ := I.base.tab a o P e t
    by_cases q : P = lamTab
    · subst q
      exact ⟨_, tab, tr⟩
    · exact ⟨ps, kk _ _ q h1, h2⟩
  · obtain ⟨o, e⟩ := I.live b hb
    exact ⟨o, kk b o (lowT b (ok.fx.low b hb)) e⟩
  · obtain ⟨fs, e, hf⟩ := I.frs
    exact ⟨fs, e, fun env he => let ⟨h1, L, m, h2, h3, h4⟩ := hf env he; ⟨h1, L, m, h2, h3, fFr h3 h4⟩⟩
theorem lam_tab {K : Frag} {N : Nat} {h : Heap} {cc : Addr} (lk : lowK K N = true) (B : Base K N h) (hK : codeAtB K cc lamTab = true) (ht : h.get? lamTab = some (X.tableObj #[])) : h.IsCode cc lamTab #[] ∧ h.TableAt cc lamTab #[] := by
  obtain ⟨ps, ic, ta⟩ := B.isCode lk hK
  have eps : ps = #[] := by
    have h := ta.2
    rw [ht] at h
    have := congrArg Obj.data (Option.some.inj h)
    injection this with this; exact this.symm
  subst eps
  exact ⟨ic, ta⟩
theorem wp_lambda {c : Fc} {s : Shared} {loc : List (Str × PV)} {cc : Addr} {args : Arguments} {body : Expr} {scope : Scope} {pos : Pos} {Q E : Value → Shared → Prop} (ok : c.Ok) (I : Inv c ⟨loc, []⟩ s) (hcode : c.env.code = .ref cc) (hK : codeAtB c.K cc lamTab = true) (ht : s.heap.get? lamTab = some (X.tableObj #[])) (hdef : defaultsOf args c.env = ([], [])) (hclos : closureFor scope c.env = pure [])
    (hbf : runPure c.K 30 (builtinsFor mainGlobals builtinsNs) = some builtinsNs) {pm0 : Option Value} (hnm : runPure c.K 30 (nsGet mainGlobals "__name__") = some pm0) (hl : lamTab < c.N)
    (k : ∀ s' v, LamStep s s' → Inv c ⟨loc, []⟩ s' → Is c.T c.ρ s'.heap (.fn (lamF c.env.qual args body scope)) v → Q v s') : wpAny c.M c.A (eval (.Lambda args body scope pos) c.env) Q E s := by
  refine kla_eval hdef ?_
  rw [makeFunction_eq]
  simp only [List.zip_nil_right, List.filterMap_nil, List.isEmpty_nil, if_true, pure_bind]
  unfold makeTail
  rw [hclos, ok.glb]
  refine wpAny_bind (wpAny_pure ?_)
  simp only [List.isEmpty_nil, if_true]
  refine wpAny_bind (wpAny_pure ?_)
  obtain ⟨ic, ta⟩ := lam_tab ok.lowK I.base hK ht
  refine wpAny_bind (wpAny_functionCodeX hcode ic ta rfl fun c' h' tk hx hge hlt ic' hrec htb hP' => ?_)
  obtain ⟨P', _, _, ⟨co, us, hco, hcc, hcd, _⟩, _⟩ := hP'
  obtain ⟨c2, co2, us2, t2, ec, hco2, hd2, hq2⟩ := hrec
  cases ec
  rw [hco] at hco2
  cases hco2
  have noT : ∀ a o, c.K.lookup a = some o → a ≠ lamTab := fun a o e q => by
    have h1 := I.base.k a o e
    rw [q, ht] at h1
    exact (lowK_at ok.lowK e).2.1 #[] (Option.some.inj h1).symm
  have KIn : c.K.In h' := fun a o e => hx a o (noT a o e) (I.base.k a o e)
  rw [ok.blt]
  refine wpAny_bind (runPure_sound (s := { s with heap := h', toks := tk }) KIn hbf ?_)
  refine wpAny_bind (runPure_sound (s := { s with heap := h', toks := tk }) KIn hnm ?_)
  refine wpAny_bind (wpAny_pure (wpAny_newObj_type ?_ (by size_fits)))
  have up : ∀ {o : Obj} b x, h'.get? b = some x → (h'.push o).get? b = some x := fun b x e => Heap.get?_push_of_some _ e
  have kk : ∀ {o : Obj} b x, b ≠ lamTab → s.heap.get? b = some x → (h'.push o).get? b = some x := fun b x nb e => up b x (hx b x nb e)
  have live : ∀ b ∈ c.T, b < s.heap.objs.size := fun b hb => let ⟨o, e⟩ := I.live b hb; Heap.lt_size e
  obtain ⟨_, _, _, _, _, _, _, _, _, op, _, _, _, _, _, _, _, hop, hpd, htr, _⟩ := ic'
  refine k _ _ ⟨kk, ⟨_, up _ _ htb.2⟩, rfl, rfl⟩ (lam_inv (s := s) ok I ht hl kk (up _ _ htb.2) htr (fun a o e => up a o (KIn a o e)) ((I.base.lim.extBut hx (by decide)).push _)) ?_
  refine .fn (c := c') (co := co) (fun z => ?_) (Heap.get?_push_size _ rfl) ⟨rfl, _, _, rfl⟩ (fun z => absurd (live _ z) (Nat.not_lt.mpr hge)) (up _ _ hco) ⟨⟨by rw [hcc]; decide, by rw [hcc]; decide⟩, us2, t2, hd2, hq2⟩
  exact absurd (Nat.lt_of_le_of_lt hge (Nat.lt_trans hlt (live _ z))) (Nat.lt_irrefl _)
end LM2
section RD3
open PySem PySem.W PyProof.Rows PySem.Calls PySem.Spec
theorem s2_given (w : Wn) (fp q : PV) (x : Str) (It : Value) (objs : List PO) : Mine.sx (ruCfg0 w) 20 (ruG w).s2 [] ⟨ruY1 fp q (.s x) It, objs⟩ = some (.next, [], ⟨ruY2 fp q (.s x) It (.s x), objs⟩, []) := by kernel_rfl
theorem start_given {w : Wn} {D : Nat} (hD : 1 ≤ D) {fp q : PV} {x : Str} {xs : List PV} {objs : List PO} : StartX w D fp q (.s x) (.s x) xs 0 objs :=
  startX_of fun c ok e room hs It => (sx_ok ok (mkCfg_ok (D := 1) (t := tabs) (po := blt _ _) (eo := .none _ _) ok e (room.le hD) (by decide) hs (tabs_ok w)) 20).s _ _ _ _ _ _ _ (s2_given w fp q x It objs) trivial
section
variable {prog : Program} {w : World} {A : Around} {E : Value → Shared → Prop} {s : Shared}
theorem next_item {it l : Addr} {i : Nat} {items : Array Value} {x : Value} {Q : Value → Shared → Prop} (hit : s.heap.IsListIter it l i) (hl : s.heap.IsList l items) (hx : items[i]? = some x)
    (hQ : ∀ h', h'.IsListIter it l (i + 1) → Heap.SameBut it s.heap h' → Q x { s with heap := h' }) : wpAny (model prog w) A (call (.builtin "next") [.ref it]) Q E s := by
  obtain ⟨o, ho, hc, hd⟩ := id hit
  obtain ⟨ol, hol, _, nl, hdl⟩ := hl
  refine call_function_entry (by decide +kernel) (by decide +kernel) kdk_entry_next (kdk_args_next _) ?_
  unfold Builtin.«next»
  refine wpAny_bind (m := someArgs "next" 1 2 _) (wpAny_of_eq (a := [Value.ref it]) (by first | rfl | kernel_rfl!) ?_)
  dsimp only
  refine wpAny_bind (wpAny_specialOf (name := Str.ofString "__next__") hit.typeIs slot_listiter_next.lookup ?_)
  refine wpAny_ite_split (fun hab => absurd hab (by decide)) (fun _ => ?_)
  refine wpAny_bind (wpAny_callSpecial?_slot (name := Str.ofString "__next__") hit.typeIs slot_listiter_next
    (wpAny_call_entry slot_listiter_next hit.typeIs entry_listiter_next ?_ (args_listiter_next _)))
  show wpAny _ _ (field (.ref it) 0 >>= _) _ _ s
  refine wpAny_bind (wpAny_field ho hd (x := .ref l) rfl ?_)
  show wpAny _ _ (if (Value.ref l == Value.none) = true then _ else _) _ _ s
  rw [if_neg (show ¬ ((Value.ref l == Value.none) = true) from Bool.false_ne_true)]
  show wpAny _ _ (field (.ref it) 1 >>= _) _ _ s
  refine wpAny_bind (wpAny_field ho hd (x := .int i 0) rfl ?_)
  show wpAny _ _ (seqItems? (.ref l) >>= _) _ _ s
  refine wpAny_bind (wpAny_seqItems hol hdl ?_)
  simp only [Int.toNat_natCast, hx]
  refine wpAny_bind (wpAny_setField ho hd (by simp) (wpAny_pure ⟨x, rfl, wpAny_pure ⟨x, rfl, hQ _ ?_ (Heap.SameBut.update ..)⟩⟩))
  exact ⟨_, Heap.get?_update_self _ ho (Obj.isFreed_of_fields (Obj.data_mapFields hd _)), (Obj.cls_mapFields ..).trans hc, by
    rw [Obj.data_mapFields hd]; simp [rawInt]⟩
end
structure TryX where
  v : Str
  pv : Pos
  nx : Str
  pn : Pos
  i : Str
  pi : Pos
  pc : Pos
  pa : Pos
  h : ExceptHandler
  pt : Pos
noncomputable def TryX.st (r : TryX) : Stmt := .Try [.Assign [.Name r.v r.pv] (.Call (.Name r.nx r.pn) [.Name r.i r.pi] [] r.pc) r.pa] [r.h] [] [] r.pt
set_option backward.match.sparseCases false in
noncomputable def tryX : List Stmt → Option TryX
  | [.Try [.Assign [.Name v pv] (.Call (.Name nx pn) [.Name i pi] _ pc) pa] [h] _ _ pt] => some ⟨v, pv, nx, pn, i, pi, pc, pa, h, pt⟩
  | _ => none
theorem tr_some (w : Wn) : (tryX (s2G w).bd).isSome = true := by kernel_rfl
noncomputable def trG (w : Wn) : TryX := (tryX (s2G w).bd).get (tr_some w)
theorem tr_shape (w : Wn) : (s2G w).bd = [(trG w).st] := by kernel_rfl
theorem tr_good (w : Wn) : ((trG w).v == ("value" : Str)) = true := by kernel_rfl
theorem tr_nx (w : Wn) (L : List (Str × PV)) (objs : List PO) : pe (ruCfg0 w) 5 (.Name (trG w).nx (trG w).pn) ⟨L, objs⟩ = some (.v (.builtin "next"), []) := by kernel_rfl
theorem tr_as (w : Wn) (fp q a : PV) (It : Value) (objs : List PO) : pfs (ruCfg0 w) 10 [.Name (trG w).i (trG w).pi] ⟨ruY1 fp q a It, objs⟩ = some ([.v It], objs, []) := by kernel_rfl
theorem s2_test (w : Wn) (fp q : PV) (It : Value) (objs : List PO) : pt (ruCfg0 w) 10 (.Compare (.Name (s2G w).x (s2G w).px) [.Is] [.Name (s2G w).y (s2G w).py] (s2G w).pc) ⟨ruY1 fp q (.v (.ref 760)) It, objs⟩ = some (true, []) := by kernel_rfl
theorem start_next {w : Wn} {D : Nat} (hD : 1 ≤ D) {fp q v0 : PV} {xs : List PV} {objs : List PO} : StartX w D fp q (.v (.ref 760)) v0 (v0 :: xs) 1 objs := by
  intro c ok e room hs It l vs s Q E ok' hm hl I it ls il k
  have gk := mkCfg_ok (c := c.at (It :: c.T) c.ρ) (D := 1) (t := tabs) (po := blt _ _) (eo := .none _ _) ok' e (room.le hD) (by decide) hs (tabs_ok w)
  rw [s2_shape]
  unfold S2X.st
  refine wpAny_If ((pe_ok ok' gk 10).t _ _ _ (s2_test w fp q _ objs) trivial s _ E I fun s1 I1 t1 => ?_)
  rw [tr_shape, if_pos rfl]
  unfold TryX.st
  refine wpAny_execs_cons (wpAny_Try_except (wpAny_execs_cons (wpAny_Assign_Name (wpAny_Call_NameR ((pe_ok ok' gk 5).e _ _ _ (tr_nx w _ objs) trivial s1 _ _ I1 fun s2 v I2 t2 i2 => ?_)) (swaps_no rfl))))
  cases i2
  refine callWith_ok (c := c.at (It :: c.T) c.ρ) (first := []) rfl rfl ((pf_ok ok' gk 10).as _ _ _ _ _ (tr_as w fp q _ _ objs) trivial) I2 fun s3 us I3 t3 i3 => ?_
  obtain ⟨u, rfl, j3⟩ := isL1 i3
  cases j3
  cases il with
  | @cons _ y _ vs i1 ir =>
    have t13 := (t1.trans t2).trans t3
    have lm : l ∉ c.muts := fun z => hl (ok'.fx.mem l z)
    have it3 := keep_iter t13.keep hm it
    have ls3 := keep_list t13.keep lm ls
    refine next_item it3 ls3 (x := y) (by simp) fun h4 it4 sb4 => ?_
    have kI : Keep c.N [It] s3.heap h4 := by obtain ⟨o1, e1, _⟩ := it4; exact .sameBut sb4 e1 (.head _)
    have cI : ∃ o, s3.heap.get? It = some o ∧ o.cls ≠ .type "frame" := by obtain ⟨o, e, c, _⟩ := it3; exact ⟨o, e, by rw [c]; decide⟩
    have I4 := I3.touch (c := c.at (It :: c.T) c.ρ) ok' (.head _) hm cI kI
    have i4 : Is (It :: c.T) c.ρ h4 v0 y := (i1.st (c := c.at (It :: c.T) c.ρ) ok' t13).keep (kI.sub fun b hb => by rcases List.mem_singleton.mp hb with rfl; exact .head _)
    rw [beq_iff_eq.mp (tr_good w)]
    have kn : c.env.kindOf ("value" : Str) = some .local := by
      unfold Env.kindOf; rw [hs]; exact beq_iff_eq.mp (List.all_eq_true.mp (ru_names w) _ (.tail _ (.tail _ (.head _))))
    refine store_name (c := c.at (It :: c.T) c.ρ) (x := "value") (p := v0) ok' kn I4 i4 fun s5 I5 t5 => ?_
    refine wpAny_execs_nil (wpAny_execs_nil (wpAny_execs_nil ?_))
    exact k s5 I5 ((t13.sub fun b hb => .tail _ hb).trans (St.trans (s' := { s3 with heap := h4 }) ⟨kI.sub fun b hb => by rcases List.mem_singleton.mp hb with rfl; exact .head _, .refl _, rfl⟩ (t5.sub fun b hb => .tail _ hb))) (keep_iter t5.keep hm it4)
structure FbX where
  v : Str
  pv : Pos
  f : Str
  pf : Pos
  a : Str
  pa : Pos
  b : Str
  pb : Pos
  pc : Pos
  p : Pos
noncomputable def FbX.st (r : FbX) : Stmt := .Assign [.Name r.v r.pv] (.Call (.Name r.f r.pf) [.Name r.a r.pa, .Name r.b r.pb] [] r.pc) r.p
set_option backward.match.sparseCases false in
noncomputable def fbX : List Stmt → Option FbX
  | [.Assign [.Name v pv] (.Call (.Name f pf) [.Name a pa, .Name b pb] _ pc) p] => some ⟨v, pv, f, pf, a, pa, b, pb, pc, p⟩
  | _ => none
theorem fb_some (w : Wn) : (fbX (ruG w).fb).isSome = true := by kernel_rfl
noncomputable def fbG (w : Wn) : FbX := (fbX (ruG w).fb).get (fb_some w)
theorem fb_shape (w : Wn) : (ruG w).fb = [(fbG w).st] := by kernel_rfl
theorem fb_good (w : Wn) : ((fbG w).v == ("value" : Str) && (fbG w).f == ("function" : Str)) = true := by kernel_rfl
theorem fb_as (w : Wn) (fp q a b x : PV) (It : Value) (objs : List PO) : pfs (ruCfg0 w) 10 [.Name (fbG w).a (fbG w).pa, .Name (fbG w).b (fbG w).pb] ⟨ruY3 fp q a It b x, objs⟩ = some ([b, x], objs, []) := by kernel_rfl
theorem fb_fn (w : Wn) (F : FuncData) (q a b x : PV) (It : Value) (objs : List PO) : pe (ruCfg0 w) 5 (.Name (fbG w).f (fbG w).pf) ⟨ruY3 (.fn F) q a It b x, objs⟩ = some (.fn F, []) := by kernel_rfl
noncomputable def FnSpec (W : Wd) (D : Nat) (F : FuncData) (ps : List PV) (r : PV) : Prop := ∀ (objs : List PO) (c : Fc), c.Ok → c.toWd = W → Room c.A D → ∀ (s : Shared) (fv : Value) (vs : List Value) (R : Result → Shared → Prop), Is c.T c.ρ s.heap (.fn F) fv → Base c.K c.N s.heap → (∀ b ∈ c.T, ∃ o, s.heap.get? b = some o) → Frs c.N c.A s.heap → ObjsOk c.T c.ρ objs s.heap → IsL c.T c.ρ s.heap ps vs → (∀ s' v, St c.N (mutsOf c.ρ) s s' → Base c.K c.N s'.heap → Frs c.N c.A s'.heap → ObjsOk c.T c.ρ objs s'.heap → Is c.T c.ρ s'.heap r v → R (.ok (.ret v)) s') → codeAny c.M c.A (.call fv ⟨vs, []⟩) R s
theorem turn_fn {w : Wn} {D : Nat} (hD : 1 ≤ D) {F : FuncData} {q a : PV} : TurnX w D (.fn F) q a fun b o x b' o' => o' = o ∧ FnSpec (WW w) D F [b, x] b' := fun c ok e room hs It b o x b' objs hp' => by
  obtain ⟨rfl, hp⟩ := hp'
  have gk := mkCfg_ok (D := 1) (t := tabs) (po := blt _ _) (eo := .none _ _) ok e (room.le hD) (by decide) hs (tabs_ok w)
  have kn : c.env.kindOf ("value" : Str) = some .local := by
    unfold Env.kindOf; rw [hs]; exact beq_iff_eq.mp (List.all_eq_true.mp (ru_names w) _ (.tail _ (.tail _ (.head _))))
  obtain ⟨g1, g2⟩ := Bool.and_eq_true_iff.mp (fb_good w)
  rw [fb_shape]
  unfold FbX.st
  rw [beq_iff_eq.mp g1]
  refine ex_cons (sx_assign (V1 := ⟨ruY3 (.fn F) q a It b x, objs⟩) (p := b') ok kn (ev_callF (V1 := ⟨ruY3 (.fn F) q a It b x, objs⟩) ok ((pe_ok ok gk 5).e _ _ _ (fb_fn w F q a b x It objs) trivial) rfl ((pf_ok ok gk 10).as _ _ _ _ _ (fb_as w _ q a b x It objs) trivial) fun s fv vs R i B lv fr O ia hq => hp objs c ok e room.of_in1 s fv vs R i B lv fr O ia hq) rfl) ex_nil
end RD3
section RD4
noncomputable abbrev tJ (ls : List (List (List Nat))) : List PV := ls.map fun l => .s (tx (joinL l))
theorem tJ_lt (n : Nat) : ∀ ls : List (List (List Nat)), PV.ltL n (tJ ls) = true
  | [] => rfl
  | a :: r => by show (true && PV.ltL n (tJ r)) = true; rw [tJ_lt n r]; rfl
theorem keep_pd (w : Wn) : keepOk (WW w).K (.ref 789) = true := by kernel_rfl
theorem ru_bind2 (w : Wn) (f x : Value) (S : Setting) (sz tk : Nat) : (runAl (WW w).K S 200 sz tk (bindArgs (ruFd w) ⟨[f, x], []⟩)).map (·.1) = some ([("function", f), ("sequence", x), ("initial", .ref 760)] : List (Str × Value)) := by kernel_rfl
noncomputable def totL (ls : List (List (List Nat))) : Nat := (ls.map List.length).sum
noncomputable abbrev OkLs (ls : List (List (List Nat))) : Prop := ∀ l ∈ ls, ∀ x ∈ l, x.length ≤ 10
theorem steps_left {w : Wn} : ∀ (ls : List (List (List Nat))) (a : List (List Nat)) (n : Nat), Wd4 n a → OkLs ls → n + totL ls ≤ 1000 → StepsF (fun b o x b' o' => Spec (WW w) 13 (.ref 789) [b, x] o b' o') (.s (tx (joinL a))) [] (tJ ls) (.s (tx (joinL (ls.foldl (fun acc l => acc.foldr stepW l) a)))) []
  | [], a, n, _, _, _ => .nil
  | l :: ls, a, n, ha, hl, ht => by
    have ht : n + (l.length + totL ls) ≤ 1000 := ht
    have h1 : Wd4 l.length l := ⟨Nat.le_refl _, hl l (.head _)⟩
    have hs := ha.steps h1
    exact .cons (spec_product w (ha.le (by omega)) (h1.le (by omega)) []) rfl (steps_left ls _ (n + l.length) hs (fun l' hl' => hl l' (.tail _ hl')) (by omega))
theorem spec_left (w : Wn) (l0 : List (List Nat)) (ls : List (List (List Nat))) (hl : OkLs (l0 :: ls)) (ht : totL (l0 :: ls) ≤ 1000) : SpecP (WW w) 14 (.ref 768) [.v (.ref 789), .l (tJ (l0 :: ls))] (.s (tx (joinL (ls.foldl (fun acc l => acc.foldr stepW l) l0)))) := by
  have st := steps_left (w := w) ls l0 l0.length ⟨Nat.le_refl _, hl l0 (.head _)⟩ (fun l h => hl l (.tail _ h)) ht
  refine spec_pure (spec_reduceX w (D := 13) (xs := tJ (l0 :: ls)) (i0 := 1) (fp := .v (.ref 789)) (q := .l (tJ (l0 :: ls))) (a := .v (.ref 760)) (v0 := .s (tx (joinL l0))) (by decide) (by simp) (fun T ρ s vs kvs B hT ia ek ik => ?_) (fun T ρ h v i => ?_) (start_next (by decide)) (loopX_of (turn_def (by decide) (keep_pd w) fun It => turn_789 w _ _ It) st)) (by show (true && (PV.ltL 0 (tJ (l0 :: ls)) && true)) = true; rw [tJ_lt]; rfl) rfl
  · obtain ⟨x, y, rfl, i, j⟩ := isL2 ia
    cases i
    cases kvs with
    | cons _ _ => cases ek
    | nil => exact bind_al B.k (ru_bind2 w _ y _ _ _) (ru_nms w) (loc_binds rfl (.cons (.v _) (.cons j (.cons (.v _) .nil))) (nodupB_ok (l := ["function", "sequence", "initial"]) (by decide)))
  · exact i.il
theorem steps_right {w : Wn} {F : FuncData} (hF : ∀ a b : List (List Nat), Wd4 1000 a → Wd4 1000 b → FnSpec (WW w) 14 F [.s (tx (joinL b)), .s (tx (joinL a))] (.s (tx (joinL (a.foldr stepW b))))) : ∀ (ls : List (List (List Nat))) (b : List (List Nat)) (n : Nat), Wd4 n b → OkLs ls → n + totL ls ≤ 1000 → StepsF (fun b o x b' o' => o' = o ∧ FnSpec (WW w) 14 F [b, x] b') (.s (tx (joinL b))) [] (tJ ls) (.s (tx (joinL (ls.foldl (fun acc l => l.foldr stepW acc) b)))) []
  | [], a, n, _, _, _ => .nil
  | l :: ls, b, n, hb, hl, ht => by
    have ht : n + (l.length + totL ls) ≤ 1000 := ht
    have h1 : Wd4 l.length l := ⟨Nat.le_refl _, hl l (.head _)⟩
    have hs := h1.steps hb
    exact .cons ⟨rfl, hF l b (h1.le (by omega)) (hb.le (by omega))⟩ rfl (steps_right hF ls _ (l.length + n) hs (fun l' hl' => hl l' (.tail _ hl')) (by omega))
theorem totL_rev (ls : List (List (List Nat))) : totL ls.reverse = totL ls := by
  unfold totL
  rw [List.map_reverse, List.sum_reverse]
theorem spec_right (w : Wn) {F : FuncData} (hF : ∀ a b : List (List Nat), Wd4 1000 a → Wd4 1000 b → FnSpec (WW w) 14 F [.s (tx (joinL b)), .s (tx (joinL a))] (.s (tx (joinL (a.foldr stepW b))))) (ls : List (List (List Nat))) (hl : OkLs ls) (ht : totL ls ≤ 1000) : SpecP (WW w) 15 (.ref 768) [.fn F, .r (tJ ls), .s ""] (.s (tx (joinL (ls.foldr (fun l acc => l.foldr stepW acc) [])))) := by
  have st := steps_right (w := w) hF ls.reverse [] 0 (.nil 0) (fun l h => hl l (List.mem_reverse.mp h)) (by rw [totL_rev]; omega)
  rw [List.foldl_reverse] at st
  have e0 : ("" : Str) = tx (joinL []) := tx_nil
  have er : tJ ls.reverse = (tJ ls).reverse := List.map_reverse
  rw [er] at st
  rw [e0]
  exact spec_pure (spec_reduceX w (D := 14) (xs := (tJ ls).reverse) (i0 := 0) (fp := .fn F) (q := .r (tJ ls)) (a := .s (tx (joinL []))) (v0 := .s (tx (joinL []))) (by decide) (Nat.zero_le _) (bindX3 w) (fun T ρ h v i => rev_items i) (start_given (by decide)) (loopX_of (turn_fn (by decide)) st)) (by show (true && (PV.ltL 0 (tJ ls) && true)) = true; rw [tJ_lt]; rfl) rfl
end RD4
section NC
noncomputable abbrev comp2 (y : Str) (py : Pos) (x : Str) (px : Pos) (i1 i2 : Expr) (y2 : Str) (py2 : Pos) (scope : Scope) (pos : Pos) : Expr := .ListComp (.Name y py) [⟨.Name x px, i1, [], 0⟩, ⟨.Name y2 py2, i2, [], 0⟩] scope pos
theorem turn_out (elt t1 i1 t2 i2 : Expr) (scope : Scope) (pos : Pos) (it acc : Value) (env : Env) :
    compTurn (.ListComp elt [⟨t1, i1, [], 0⟩, ⟨t2, i2, [], 0⟩] scope pos) 0 it acc env = (standAt i1.pos >>= fun _ => pyNext it >>= fun r => match r with
      | none => pure (.done .next)
      | some v => letOwnedTupleGo t1 it v >>= fun _ => assign t1 env v >>= fun _ => eval i2 env >>= fun x => standAt i2.pos >>= fun _ => foldedSetIterable i2 env x >>= fun x => holding [x] (pyIter x) >>= fun it2 =>
          runOwn (.compStart (.ListComp elt [⟨t1, i1, [], 0⟩, ⟨t2, i2, [], 0⟩] scope pos) 1 it2 acc env) env >>= fun _ =>
          again (.compLoop (.ListComp elt [⟨t1, i1, [], 0⟩, ⟨t2, i2, [], 0⟩] scope pos) 0 it acc env)) := by rfl
theorem turn_in (elt t1 i1 t2 i2 : Expr) (scope : Scope) (pos : Pos) (it acc : Value) (env : Env) :
    compTurn (.ListComp elt [⟨t1, i1, [], 0⟩, ⟨t2, i2, [], 0⟩] scope pos) 1 it acc env = (standAt i2.pos >>= fun _ => pyNext it >>= fun r => match r with
      | none => pure (.done .next)
      | some v => letOwnedTupleGo t2 it v >>= fun _ => assign t2 env v >>= fun _ =>
        (eval elt env >>= fun x => call (.builtin "list.append") [acc, x] >>= fun _ => pure ()) >>= fun _ =>
          again (.compLoop (.ListComp elt [⟨t1, i1, [], 0⟩, ⟨t2, i2, [], 0⟩] scope pos) 1 it acc env)) := by rfl
section
variable {prog : Program} {w : World} {A : Around} {E : Value → Shared → Prop} {R : Result → Shared → Prop} {s : Shared}
theorem code_in {elt t1 i1 t2 i2 : Expr} {scope : Scope} {pos : Pos} {it acc : Value} {env : Env} (I : Nat → Shared → Prop)
    (turn : ∀ n s, I n s → wpAny (model prog w) A (pyNext it) (fun r s₁ => match r with
      | none => R (.ok .next) s₁
      | some v => wpAny (model prog w) A (assign t2 env v) (fun _ s₂ => wpAny (model prog w) A (eval elt env) (fun x s₃ =>
          wpAny (model prog w) A (call (.builtin "list.append") [acc, x]) (fun _ s₄ => ∃ m, m < n ∧ I m s₄) (notedBy (model prog w) A env fun e s' => R (.error e) s') s₃)
          (notedBy (model prog w) A env fun e s' => R (.error e) s') s₂) (notedBy (model prog w) A env fun e s' => R (.error e) s') s₁) (notedBy (model prog w) A env fun e s' => R (.error e) s') s)
    (n : Nat) (h : I n s) (ht : ∀ v, letOwnedTupleGo t2 it v = pure ()) :
    codeAny (model prog w) A (.compLoop (.ListComp elt [⟨t1, i1, [], 0⟩, ⟨t2, i2, [], 0⟩] scope pos) 1 it acc env) R s := by
  refine codeAny_loop rfl I (fun n s hI => ?_) n h
  show wpAny _ _ ((compTurn (.ListComp elt [⟨t1, i1, [], 0⟩, ⟨t2, i2, [], 0⟩] scope pos) 1 it acc env).onRaise (fun x => do noteFrame x env; theTreesLotGoes x)) _ _ s
  refine wpAny_noted ?_
  rw [turn_in]
  refine wpAny_bind (wpAny_standAt (wpAny_bind (wpAny_mono (turn n s hI) (fun r s₁ h₁ => ?_) fun _ _ h' => h')))
  cases r with
  | none => exact wpAny_pure h₁
  | some v =>
    refine wpAny_bind (wpAny_of_eq (ht v) ?_)
    exact wpAny_bind (wpAny_mono h₁ (fun _ s₂ h₂ => wpAny_bind (wpAny_bind (wpAny_mono h₂ (fun x s₃ h₃ => wpAny_bind (wpAny_mono h₃
      (fun _ s₄ h₄ => wpAny_pure (wpAny_pure ⟨rfl, h₄⟩)) fun _ _ h' => h')) fun _ _ h' => h'))) fun _ _ h' => h')
theorem code_out {elt t1 i1 t2 i2 : Expr} {scope : Scope} {pos : Pos} {it acc : Value} {env : Env} (I : Nat → Shared → Prop)
    (turn : ∀ n s, I n s → wpAny (model prog w) A (pyNext it) (fun r s₁ => match r with
      | none => R (.ok .next) s₁
      | some v => wpAny (model prog w) A (assign t1 env v) (fun _ s₂ => wpAny (model prog w) A (eval i2 env) (fun x s₃ => wpAny (model prog w) A (pyIter x) (fun it2 s₄ =>
          codeAny (model prog w) A (.compStart (.ListComp elt [⟨t1, i1, [], 0⟩, ⟨t2, i2, [], 0⟩] scope pos) 1 it2 acc env) (fun r s₅ => match r with
            | .ok _ => ∃ m, m < n ∧ I m s₅
            | .error e => cameBackBy (model prog w) A env (notedBy (model prog w) A env fun e s' => R (.error e) s') e s₅) s₄) (notedBy (model prog w) A env fun e s' => R (.error e) s') s₃)
          (notedBy (model prog w) A env fun e s' => R (.error e) s') s₂) (notedBy (model prog w) A env fun e s' => R (.error e) s') s₁) (notedBy (model prog w) A env fun e s' => R (.error e) s') s)
    (n : Nat) (h : I n s) (hf : ∀ x, foldedSetIterable i2 env x = pure x) (ht : ∀ v, letOwnedTupleGo t1 it v = pure ()) :
    codeAny (model prog w) A (.compLoop (.ListComp elt [⟨t1, i1, [], 0⟩, ⟨t2, i2, [], 0⟩] scope pos) 0 it acc env) R s := by
  refine codeAny_loop rfl I (fun n s hI => ?_) n h
  show wpAny _ _ ((compTurn (.ListComp elt [⟨t1, i1, [], 0⟩, ⟨t2, i2, [], 0⟩] scope pos) 0 it acc env).onRaise (fun x => do noteFrame x env; theTreesLotGoes x)) _ _ s
  refine wpAny_noted ?_
  rw [turn_out]
  refine wpAny_bind (wpAny_standAt (wpAny_bind (wpAny_mono (turn n s hI) (fun r s₁ h₁ => ?_) fun _ _ h' => h')))
  cases r with
  | none => exact wpAny_pure h₁
  | some v =>
    refine wpAny_bind (wpAny_of_eq (ht v) ?_)
    refine wpAny_bind (wpAny_mono h₁ (fun _ s₂ h₂ => wpAny_bind (wpAny_mono h₂ (fun x s₃ h₃ => wpAny_bind (wpAny_standAt (wpAny_bind (wpAny_of_eq (hf x) (wpAny_bind (wpAny_holding (wpAny_mono h₃ (fun it2 s₄ h₄ => ?_) fun _ _ h' => h'))))))) fun _ _ h' => h')) fun _ _ h' => h')
    refine wpAny_bind (wpAny_runOwn (codeAny_mono h₄ fun r s₅ h₅ => ?_))
    cases r with
    | ok f => exact wpAny_pure ⟨rfl, h₅⟩
    | error e => exact h₅
theorem code_start {elt t1 i1 t2 i2 : Expr} {scope : Scope} {pos : Pos} {it acc : Value} {env : Env}
    (h0 : codeAny (model prog w) A (.compLoop (.ListComp elt [⟨t1, i1, [], 0⟩, ⟨t2, i2, [], 0⟩] scope pos) 1 it acc env) R s)
    (h : wpAny (model prog w) A (pyIter it) (fun it' s' => codeAny (model prog w) A (.compLoop (.ListComp elt [⟨t1, i1, [], 0⟩, ⟨t2, i2, [], 0⟩] scope pos) 1 it' acc env) R s')
      (notedBy (model prog w) A env fun x s' => R (.error x) s') s) :
    codeAny (model prog w) A (.compStart (.ListComp elt [⟨t1, i1, [], 0⟩, ⟨t2, i2, [], 0⟩] scope pos) 1 it acc env) R s := by
  refine codeAny_of_tree ?_
  show wpAny _ _ ((compStart (.ListComp elt [⟨t1, i1, [], 0⟩, ⟨t2, i2, [], 0⟩] scope pos) 1 it acc env).onRaise (fun x => do noteFrame x env; standAt theWindowsPlace)) _ _ s
  refine wpAny_notedAt ?_
  unfold compStart
  show wpAny _ _ (ask >>= _) _ _ s
  refine wpAny_bind (wpAny_askSetting (wpAny_ite ?_))
  split
  · first
      | exact wpAny_bind (wpAny_pure (wpAny_pure (And.intro rfl h0)))
      | exact wpAny_pure (And.intro rfl h0)
  · first
      | exact wpAny_bind (wpAny_rule (wpAny_bind (wpAny_standAt (wpAny_bind (wpAny_mono h (fun it' s' h' => wpAny_pure (And.intro rfl h')) fun _ _ x => x)))))
      | (refine wpAny_bind (wpAny_rule ?_); show wpAny _ _ (standAt i2.pos >>= _) _ _ s; exact wpAny_bind (wpAny_standAt (wpAny_bind (wpAny_mono h (fun it' s' h' => wpAny_pure (And.intro rfl h')) fun _ _ x => x))))
end
theorem inner_go {c : Fc} {V : View} {i1 i2 : Expr} {x y : Str} {px py py2 pos : Pos} {scope : Scope} {acc0 ws : List PV} {sA s : Shared} {I2 D C l : Addr} {T : List Addr} {vs : List Value} {R : Result → Shared → Prop}
    (hh : c.A.handled = none) (hkind : scope.kind = .function) (hy : scope.names.lookup y = some .local) (hdy : (y == ("__debug__" : Str)) = false) (hz : (acc0 ++ ws).length ≤ 1000000)
    (O : COk c [C, D] sA I2 D C l T) (a : CAt c V [C, D] sA I2 D C l T vs ws acc0 0 s) (k : CEnd c V [C, D] sA I2 D C T (acc0 ++ ws) R) :
    codeAny c.M c.A (.compLoop (comp2 y py x px i1 i2 y py2 scope pos) 1 (.ref I2) (.ref D) (compEnv scope C c.env)) R s := by
  refine code_in (fun n s' => ∃ i, n = ws.length + 1 - i ∧ i ≤ ws.length ∧ CAt c V [C, D] sA I2 D C l T vs ws (acc0 ++ ws.take i) i s') ?_ (ws.length + 1) ⟨0, rfl, Nat.zero_le _, by rw [List.take_zero, List.append_nil]; exact a⟩ (fun _ => rfl)
  rintro n s' ⟨i, rfl, hi, a⟩
  refine comp_turn hh hkind hy O hi a (fun s1 ys m hin I1 t1 h1 h2 h3 => k s1 ys m I1 t1 h1 (by rw [hin, List.take_length] at h2; exact h2) h3) fun s2 m p v hp a2 hm hv i2 => ?_
  obtain ⟨hlt, rfl⟩ := List.getElem?_eq_some_iff.mp hp
  refine wpAny_Name (wpAny_loadName_local (env := compEnv scope C c.env) hkind hy hm hv ?_) hdy
  have yl : (acc0 ++ ws.take i).length ≤ 1000000 := by
    refine Nat.le_trans ?_ hz
    rw [List.length_append, List.length_append]
    exact Nat.add_le_add_left (List.length_take_le' i ws) _
  exact comp_push O a2 i2 yl fun s4 a4 => ⟨_, ndec hlt, i + 1, rfl, hlt, by rw [List.take_succ_eq_append_getElem hlt, ← List.append_assoc]; exact a4⟩
end NC
section NC2
theorem st_out {N : Nat} {F : List Addr} {s0 s s' : Shared} {C D : Addr} (x : St N F s0 s) (y : St N [C, D] s s') (nC : C ∈ F ∨ s0.heap.get? C = none) (nD : D ∈ F ∨ s0.heap.get? D = none) : St N F s0 s' := by
  have ne : ∀ {b o d}, (d ∈ F ∨ s0.heap.get? d = none) → b ∉ F → s0.heap.get? b = some o → b ≠ d := fun n nb e q => by
    subst q
    rcases n with n | n
    · exact nb n
    · rw [n] at e; cases e
  refine ⟨⟨fun b o nb e => (x.keep.off b o nb e).trans fun o' e' => y.keep.off b o' (fun z => ?_) e', fun b o e => let ⟨o', e'⟩ := x.keep.there b o e; y.keep.there b o' e'⟩, x.gens.trans y.gens, y.os.trans x.os⟩
  rcases List.mem_cons.mp z with z | z
  · exact ne nC nb e z
  · exact ne nD nb e (List.mem_singleton.mp z)
theorem flat_take {lss : List (List PV)} {i : Nat} {ws : List PV} (h : lss[i]? = some ws) : (lss.take (i + 1)).flatten = (lss.take i).flatten ++ ws := by
  obtain ⟨hl, e⟩ := List.getElem?_eq_some_iff.mp h
  rw [List.take_succ_eq_append_getElem hl, List.flatten_append, e]; simp
theorem flat_le {lss : List (List PV)} (i : Nat) : (lss.take i).flatten.length ≤ lss.flatten.length := by
  have : lss.flatten = (lss.take i).flatten ++ (lss.drop i).flatten := by rw [← List.flatten_append, List.take_append_drop]
  rw [this, List.length_append]
  exact Nat.le_add_right _ _
theorem less_head {T : List Addr} {I : Addr} (h : I ∉ T) : lessA (I :: T) I = T := by
  have e : ∀ b ∈ T, (b != I) = true := fun b hb => bne_iff_ne.mpr fun q => h (q ▸ hb)
  unfold lessA
  rw [List.filter_cons, bne_self_eq_false I, List.filter_eq_self.mpr e]
  rfl
section
variable {c : Fc} {V : View} {F : List Addr} {s0 s s' : Shared} {It D C l : Addr} {T : List Addr} {vs : List Value} {ps acc acc' : List PV} {i : Nat}
theorem CAt.inner {l2 : Addr} {vs2 : List Value} {ws : List PV} (O : COk c F s0 It D C l T) (a : CAt c V F s0 It D C l T vs ps acc i s) (z : s.heap.IsList l2 vs2.toArray) (iw : IsL T c.ρ s.heap ws vs2) (lT : l2 ∉ T) : COk c [C, D] s s.heap.objs.size D C l2 (s.heap.objs.size :: T) ∧ CAt c V [C, D] s s.heap.objs.size D C l2 (s.heap.objs.size :: T) vs2 ws acc 0 { s with heap := s.heap.push (itObj l2) } ∧ s.heap.objs.size ∉ T := by
  have N := own_new (c := c.at T c.ρ) (ob := itObj l2) O.ok a.inv (Heap.get?_push_size _ rfl)
  obtain ⟨ys, ha, hy⟩ := a.acc
  obtain ⟨m, hm⟩ := a.ns
  generalize s.heap.objs.size = I2 at *
  generalize s.heap.push (itObj l2) = h2 at *
  have ne2 : ∀ {b : Addr}, b ∈ T → I2 ≠ b := fun hb q => N.hT (show I2 ∈ T from q ▸ hb)
  have l2n : l2 ∉ I2 :: T := fun q => by
    rcases List.mem_cons.mp q with q | q
    · obtain ⟨o, e, _⟩ := z; rw [q, N.no] at e; cases e
    · exact lT q
  have kT := N.keep.all (T := I2 :: T)
  exact ⟨⟨N.ok, N.no, .inl (.tail _ (.head _)), .inl (.head _), .head _, .tail _ O.hD, .tail _ O.hC, N.hm, O.mD, O.mC, N.nf, O.fD, O.fC, ne2 O.hD, ne2 O.hC, O.DC, l2n⟩, ⟨N.inv, ⟨N.keep.all, .refl _, rfl⟩, ⟨_, N.at_, rfl, rfl⟩, keep_list N.keep (fun z => nomatch z) z, ⟨ys, keep_list N.keep (fun z => nomatch z) ha, (hy.more N.no).keep kT⟩, ⟨m, N.keep.ns (fun z => nomatch z) hm⟩, (iw.more N.no).keep kT⟩, N.hT⟩
theorem CAt.outer {ys : Array Value} {m : Str → Option Value} (O : COk c F s0 It D C l T) (a : CAt c V F s0 It D C l T vs ps acc i s) (J : Inv (c.at T c.ρ) V s') (t : St c.N [C, D] s s') (ha : s'.heap.IsList D ys) (hy : IsL T c.ρ s'.heap acc' ys.toList) (hm : s'.heap.Ns C m) : CAt c V F s0 It D C l T vs ps acc' i s' := by
  have nCD : ∀ {b : Addr}, b ≠ C → b ≠ D → b ∉ [C, D] := fun h1 h2 z => by
    rcases List.mem_cons.mp z with z | z
    · exact h1 z
    · exact h2 (List.mem_singleton.mp z)
  refine ⟨J, st_out a.st t O.oC O.oD, keep_iter t.keep (nCD O.IC O.ID) a.it, keep_list t.keep (nCD O.lC O.lD) a.ls, ⟨ys.toList, ha, hy⟩, ⟨m, hm⟩, a.iv.keep (t.keep.sub fun b hb => ?_)⟩
  rcases List.mem_cons.mp hb with rfl | hb
  · exact O.hC
  · rcases List.mem_singleton.mp hb with rfl; exact O.hD
end
theorem outer_go {c : Fc} {V : View} {i1 : Expr} {x y : Str} {px py py2 pxx pos : Pos} {scope : Scope} {lss : List (List PV)} {s0 s : Shared} {It D C l : Addr} {T : List Addr} {vs : List Value} {R : Result → Shared → Prop}
    (hh : c.A.handled = none) (hkind : scope.kind = .function) (hx : scope.names.lookup x = some .local) (hdx : (x == ("__debug__" : Str)) = false) (hy : scope.names.lookup y = some .local) (hdy : (y == ("__debug__" : Str)) = false) (hz : lss.flatten.length ≤ 1000000) (hf : ∀ z, foldedSetIterable (.Name x pxx) (compEnv scope C c.env) z = pure z)
    (O : COk c c.muts s0 It D C l T) (a : CAt c V c.muts s0 It D C l T vs (lss.map .l) [] 0 s) (k : CEnd c V c.muts s0 It D C T lss.flatten R) :
    codeAny c.M c.A (.compLoop (comp2 y py x px i1 (.Name x pxx) y py2 scope pos) 0 (.ref It) (.ref D) (compEnv scope C c.env)) R s := by
  refine code_out (fun n s' => ∃ i, n = lss.length + 1 - i ∧ i ≤ lss.length ∧ CAt c V c.muts s0 It D C l T vs (lss.map .l) (lss.take i).flatten i s') ?_ (lss.length + 1) ⟨0, rfl, Nat.zero_le _, a⟩ hf (fun _ => rfl)
  rintro n s' ⟨i, rfl, hi, a⟩
  refine comp_turn hh hkind hx O (by rw [List.length_map]; exact hi) a (fun s1 ys m hin I1 t1 h1 h2 h3 => k s1 ys m I1 t1 h1 (by rw [List.length_map] at hin; rw [hin, List.take_length] at h2; exact h2) h3) fun s2 m p v hp a2 hm hv i2 => ?_
  rw [List.getElem?_map] at hp
  obtain ⟨ws, hw, rfl⟩ := Option.map_eq_some_iff.mp hp
  have hlt := (List.getElem?_eq_some_iff.mp hw).1
  refine wpAny_Name (wpAny_loadName_local (env := compEnv scope C c.env) hkind hx hm hv ?_) hdx
  obtain ⟨l2, ob2, arr2, n2, z2, iw⟩ := i2.il
  have hv2 := z2.v
  subst hv2
  refine wpAny_pyIter_list z2.isList ?_
  obtain ⟨O2, b, nT⟩ := a2.inner O (vs2 := arr2.toList) z2.isList iw z2.out
  have hz2 : ((lss.take i).flatten ++ ws).length ≤ 1000000 := by rw [← flat_take hw]; exact Nat.le_trans (flat_le _) hz
  have bi := b.it
  refine code_start (inner_go hh hkind hy hdy hz2 O2 b ?_) (wpAny_pyIter_listiter bi (inner_go hh hkind hy hdy hz2 O2 b ?_)) <;>
  · intro s5 ys5 m5 J5 t5 ha5 hy5 hm5
    rw [less_head nT] at J5 hy5
    rw [← flat_take hw] at hy5
    exact ⟨_, ndec hlt, i + 1, rfl, hlt, a2.outer O J5 t5 ha5 hy5 hm5⟩
end NC2
section SC
theorem Inv.subT {c : Fc} {V : View} {s : Shared} {T T' : List Addr} (hs : ∀ b ∈ T', b ∈ T) (I : Inv (c.at T c.ρ) V s) : Inv (c.at T' c.ρ) V s := by
  obtain ⟨m, hn, lo⟩ := I.rep.ns
  exact ⟨⟨⟨m, hn, fun x p e => let ⟨v, e1, e2⟩ := lo x p e; ⟨v, e1, e2.to (to_sub hs)⟩⟩, fun j po e => (I.rep.objs j po e).sub hs⟩, I.base, fun b hb => I.live b (hs b hb), I.frs⟩
structure CNew (c : Fc) (V : View) (s : Shared) (It D C l : Addr) (vs : List Value) (ps : List PV) (s4 : Shared) : Prop where
  ok : COk c c.muts s It D C l (C :: D :: It :: c.T)
  at_ : CAt c V c.muts s It D C l (C :: D :: It :: c.T) vs ps [] 0 s4
  less : lessA (C :: D :: It :: c.T) It = C :: D :: c.T
  lowC : c.N ≤ C
  nC : C ∉ c.T
  nD : D ∉ c.T
  noC : s.heap.get? C = none
theorem back_no {N : Nat} {F : List Addr} {h h' : Heap} {a : Addr} (k : Keep N F h h') (e : h'.get? a = none) : h.get? a = none := by
  cases q : h.get? a with
  | none => rfl
  | some o => obtain ⟨o', e'⟩ := k.there _ o q; rw [e] at e'; cases e'
theorem own_list {c : Fc} {V : View} {s s' : Shared} {It l : Addr} {o : Obj} {items : Array Value} (O : OwnNew c V s It o s') (h : s.heap.IsList l items) (n : l ∉ c.T) : s'.heap.IsList l items ∧ l ∉ It :: c.T := by
  refine ⟨keep_list O.keep (fun z => nomatch z) h, fun z => ?_⟩
  rcases List.mem_cons.mp z with z | z
  · obtain ⟨o, e, _⟩ := h; rw [z, O.no] at e; cases e
  · exact n z
theorem own_items {c : Fc} {V : View} {s s' : Shared} {It : Addr} {o : Obj} {ps : List PV} {vs : List Value} (O : OwnNew c V s It o s') (h : IsL c.T c.ρ s.heap ps vs) : IsL (It :: c.T) c.ρ s'.heap ps vs := (h.more O.no).keep (O.keep.all (T := It :: c.T))
theorem comp_fresh {c : Fc} {V : View} {s s1 s2 s3 s4 : Shared} {It D C l : Addr} {items : List Value} {ps : List PV} (t1 : St c.N c.muts s s1) (h : s1.heap.IsList l items.toArray) (hl : l ∉ c.T) (il : IsL c.T c.ρ s1.heap ps items) (NI : OwnNew c V s1 It (itObj l) s2) (ND : OwnNew (c.at (It :: c.T) c.ρ) V s2 D { cls := .type "list", data := .seq ([] : List Value).toArray } s3) (NC : OwnNew (c.at (D :: It :: c.T) c.ρ) V s3 C { cls := .type "dict", data := .dict #[] } s4) (ns : s4.heap.Ns C fun _ => none) : CNew c V s It D C l items ps s4 := by
  obtain ⟨h2, l2⟩ := own_list NI h hl
  obtain ⟨h3, l3⟩ := own_list ND h2 l2
  obtain ⟨h4, l4⟩ := own_list NC h3 l3
  have k2 := NI.keep
  have k3 := k2.trans ND.keep
  have hDI : D ≠ It := fun q => ND.hT (q ▸ .head _)
  have hCD : C ≠ D := fun q => NC.hT (q ▸ .head _)
  have hCI : C ≠ It := fun q => NC.hT (q ▸ .tail _ (.head _))
  have noC := back_no t1.keep (back_no k3 NC.no)
  have nC : C ∉ c.T := fun z => NC.hT (.tail _ (.tail _ z))
  have nD : D ∉ c.T := fun z => ND.hT (.tail _ z)
  have e : lessA (C :: D :: It :: c.T) It = C :: D :: c.T := by
    show List.filter (· != It) _ = _
    rw [List.filter_cons, bne_iff_ne.mpr hCI, List.filter_cons, bne_iff_ne.mpr hDI, if_pos rfl, if_pos rfl]
    exact congrArg _ (congrArg _ (less_head NI.hT))
  exact ⟨⟨NC.ok, back_no t1.keep NI.no, .inr (back_no t1.keep (back_no k2 ND.no)), .inr noC, .tail _ (.tail _ (.head _)), .tail _ (.head _), .head _, NI.hm, ND.hm, NC.hm, NI.nf, ND.nf, NC.nf, hDI.symm, hCI.symm, hCD.symm, l4⟩, ⟨NC.inv, t1.trans (NI.st.trans (ND.st.trans NC.st)), keep_iter (NC.keep) (fun z => nomatch z) (keep_iter ND.keep (fun z => nomatch z) ⟨_, NI.at_, rfl, rfl⟩), h4, ⟨[], keep_list NC.keep (fun z => nomatch z) ⟨_, ND.at_, rfl, 0, rfl⟩, .nil⟩, ⟨_, ns⟩, own_items NC (own_items ND (own_items NI il))⟩, e, NC.low, nC, nD, noC⟩
theorem sx_lc {c : Fc} {V : View} {elt iter : Expr} {rest : List Comprehension} {x z : Str} {px pos pz spos : Pos} {scope : Scope} {ps rs : List PV} (ok : c.Ok) (hsw : swapsWith (.ListComp elt (⟨.Name x px, iter, [], 0⟩ :: rest) scope pos) (some (.Name z pz)) spos.line c.env = pure true) (hk : c.env.kindOf z = some .local) (hfree : ∀ x ∈ scope.names, x.2 ≠ .free) (hcell : ∀ x ∈ scope.names, x.2 ≠ .cell) (hnames : ∀ x ∈ scope.names, x.2 = .local → scope.names.lookup x.1 = some .local) (hkind : scope.kind = .function)
    (hit : EvOk c iter V (.l ps) V) (hs : ∀ x, foldedSetIterable iter c.env x = pure x) (hloop : ∀ (It D C l : Addr) (T : List Addr) (vs : List Value) (s s' : Shared) (R : Result → Shared → Prop), COk c c.muts s It D C l T → CAt c V c.muts s It D C l T vs ps [] 0 s' → CEnd c V c.muts s It D C T rs R → codeAny c.M c.A (.compLoop (.ListComp elt (⟨.Name x px, iter, [], 0⟩ :: rest) scope pos) 0 (.ref It) (.ref D) (compEnv scope C c.env)) R s') :
    SxOk c (.Assign [.Name z pz] (.ListComp elt (⟨.Name x px, iter, [], 0⟩ :: rest) scope pos) spos) V .next { V with loc := put z (.l rs) V.loc } := by
  intro s Q E I k
  rw [exec_Assign_Name_used _ _ _ _ hsw]
  refine wpAny_bind (wpAny_standAt (wpAny_bind ?_))
  show wpAny _ _ (do let _ ← comprehension (.ListComp elt (⟨.Name x px, iter, [], 0⟩ :: rest) scope pos) scope c.env _ (newList []) false (eval iter c.env) (some (assign (.Name z pz) c.env))) _ _ s
  refine wpAny_bind (wpAny_mono (wpAny_comprehension_use (Q := fun _ s' => Q .next s') rfl hs hfree hkind hnames ?_) (fun _ s' hq => wpAny_pure (wpAny_pure hq)) fun _ _ e => e)
  refine hit s _ E I fun s1 v I1 t1 i1 => ?_
  obtain ⟨l, ob, arr, n, si, il⟩ := i1.il
  have hv := si.v
  subst hv
  refine wpAny_pyIter_list si.isList ?_
  have NI := own_new (ob := itObj l) ok I1 (Heap.get?_push_size _ rfl)
  generalize s1.heap.objs.size = It at *
  generalize s1.heap.push (itObj l) = h2 at *
  refine wpAny_newObj_type (hd := by size_fits) ?_
  have ND := own_new (c := c.at (It :: c.T) c.ρ) (s := { s1 with heap := h2 }) (ob := { cls := .type "list", data := .seq ([] : List Value).toArray }) NI.ok NI.inv (Heap.get?_push_size _ rfl)
  show wpAny _ _ _ _ _ { s1 with heap := h2.push { cls := .type "list", data := .seq ([] : List Value).toArray } }
  generalize h2.objs.size = D at *
  generalize h2.push { cls := .type "list", data := .seq ([] : List Value).toArray } = h3 at *
  refine wp_compEnv hcell ?_
  have NC := own_new (c := c.at (D :: It :: c.T) c.ρ) (s := { s1 with heap := h3 }) (ob := { cls := .type "dict", data := .dict #[] }) ND.ok ND.inv (Heap.get?_push_size _ rfl)
  have N := comp_fresh t1 si.isList si.out il NI ND NC (Heap.Ns.new ..)
  clear NC ND NI
  generalize h3.objs.size = C at *
  generalize h3.push { cls := .type "dict", data := .dict #[] } = h4 at *
  have loop := hloop It D C l _ arr.toList s { s1 with heap := h4 } (fun r s' => match r with | .ok _ => wpAny c.M c.A (assign (.Name z pz) c.env (.ref D)) (fun _ s'' => ∃ m, s''.heap.Ns C m ∧ ∀ h', Heap.SameBut C s''.heap h' → Q .next { s'' with heap := h' }) E s' | .error x => ∃ m, s'.heap.Ns C m ∧ ∀ h', Heap.SameBut C s'.heap h' → wpAny c.M c.A (passOn "comprehension.variables-let-go" x (compEnv scope C c.env)) (fun (_ : Value) s' => Q .next s') E { s' with heap := h' }) N.ok N.at_ fun s' ys m I' st' acc' hy' ns' => by
    rw [N.less] at I' hy'
    have subC : ∀ b ∈ C :: c.T, b ∈ C :: D :: c.T := fun b hb => by
      rcases List.mem_cons.mp hb with rfl | hb
      · exact .head _
      · exact .tail _ (.tail _ hb)
    have okC : (c.at (C :: c.T) c.ρ).Ok := ⟨⟨fun b hb => .tail _ (ok.fx.mem b hb), ok.fx.nodup, fun b hb => by rcases List.mem_cons.mp hb with rfl | hb; exact N.lowC; exact ok.fx.low b hb⟩, ok.kind, ok.loc, ok.glb, ok.blt, ok.lowK, ok.lo⟩
    obtain ⟨oD, eD, cD, nD, dD⟩ := acc'
    have iD : Is (C :: c.T) c.ρ s'.heap (.l rs) (.ref D) := .l (fun z => by
      rcases List.mem_cons.mp z with z | z
      · exact N.ok.DC z
      · exact N.nD z) eD cD dD (hy'.to (to_sub subC))
    refine wpAny_assign_Name (store_name (c := c.at (C :: c.T) c.ρ) okC hk (Inv.subT (c := c) subC I') iD fun s2 I2 t2 => ⟨m, t2.keep.ns N.ok.mC ns', fun h' sb => ?_⟩)
    exact k _ _ (Inv.drop1 (c := c) (T := c.T) ok I2 N.ok.mC N.lowC N.nC N.ok.fC sb) ((st'.trans t2).off N.noC sb.extBut) rfl
  have it := N.at_.it
  exact codeAny_compStart_list loop (wpAny_pyIter_listiter it loop)
theorem sx_listcomp2 {c : Fc} {V : View} {iter : Expr} {x y z : Str} {px py py2 pxx pos pz spos : Pos} {scope : Scope} {lss : List (List PV)} (ok : c.Ok) (hh : c.A.handled = none) (hsw : swapsWith (comp2 y py x px iter (.Name x pxx) y py2 scope pos) (some (.Name z pz)) spos.line c.env = pure true) (hk : c.env.kindOf z = some .local) (hfree : ∀ x ∈ scope.names, x.2 ≠ .free) (hcell : ∀ x ∈ scope.names, x.2 ≠ .cell) (hnames : ∀ x ∈ scope.names, x.2 = .local → scope.names.lookup x.1 = some .local) (hkind : scope.kind = .function) (hx : scope.names.lookup x = some .local) (hdx : (x == ("__debug__" : Str)) = false) (hy : scope.names.lookup y = some .local) (hdy : (y == ("__debug__" : Str)) = false)
    (hit : EvOk c iter V (.l (lss.map PV.l)) V) (hs : ∀ x, foldedSetIterable iter c.env x = pure x) (hf : ∀ C z, foldedSetIterable (.Name x pxx) (compEnv scope C c.env) z = pure z) (hz : lss.flatten.length ≤ 1000000) :
    SxOk c (.Assign [.Name z pz] (comp2 y py x px iter (.Name x pxx) y py2 scope pos) spos) V .next { V with loc := put z (.l lss.flatten) V.loc } :=
  sx_lc ok hsw hk hfree hcell hnames hkind hit hs fun It D C l T vs s s' R O a k => outer_go hh hkind hx hdx hy hdy hz (hf C) O a k
theorem sx_listcomp {c : Fc} {V : View} {elt iter : Expr} {x z : Str} {px pos pz spos : Pos} {scope : Scope} {ps rs : List PV} (ok : c.Ok) (hh : c.A.handled = none) (hsw : swapsWith (.ListComp elt [⟨.Name x px, iter, [], 0⟩] scope pos) (some (.Name z pz)) spos.line c.env = pure true) (hk : c.env.kindOf z = some .local) (hfree : ∀ x ∈ scope.names, x.2 ≠ .free) (hcell : ∀ x ∈ scope.names, x.2 ≠ .cell) (hnames : ∀ x ∈ scope.names, x.2 = .local → scope.names.lookup x.1 = some .local) (hkind : scope.kind = .function) (hx : scope.names.lookup x = some .local)
    (hit : EvOk c iter V (.l ps) V) (hs : ∀ x, foldedSetIterable iter c.env x = pure x) (hlen : rs.length = ps.length) (hz : ps.length ≤ 1000000) (he : ∀ (i : Nat) (p r : PV), ps[i]? = some p → rs[i]? = some r → CElt c elt scope x V p r) :
    SxOk c (.Assign [.Name z pz] (.ListComp elt [⟨.Name x px, iter, [], 0⟩] scope pos) spos) V .next { V with loc := put z (.l rs) V.loc } :=
  sx_lc ok hsw hk hfree hcell hnames hkind hit hs fun It D C l T vs s s' R O a k => comp_go hh hkind hx hlen hz he O a k
end SC
section PL1
noncomputable abbrev plFd (w : Wn) : FuncData := fdOf (WW w).K 794
structure PlX where
  s1 : Stmt
  z : Str
  pz : Pos
  y : Str
  py : Pos
  x : Str
  px : Pos
  it : Expr
  y2 : Str
  py2 : Pos
  xx : Str
  pxx : Pos
  scope : Scope
  cp : Pos
  sp : Pos
  w1 : Str
  w1p : Pos
  i1 : Expr
  b1 : List Stmt
  f1 : Pos
  r : Str
  pr : Pos
  lp : Pos
  rp : Pos
  w2 : Str
  w2p : Pos
  i2 : Expr
  b2 : List Stmt
  f2 : Pos
  ret : Stmt
noncomputable def PlX.comp (r : PlX) : Expr := .ListComp (.Name r.y r.py) [⟨.Name r.x r.px, r.it, [], 0⟩, ⟨.Name r.y2 r.py2, .Name r.xx r.pxx, [], 0⟩] r.scope r.cp
noncomputable def PlX.all (r : PlX) : List Stmt := [r.s1, .Assign [.Name r.z r.pz] r.comp r.sp, .For (.Name r.w1 r.w1p) r.i1 r.b1 [] r.f1, .Assign [.Name r.r r.pr] (.List [] r.lp) r.rp, .For (.Name r.w2 r.w2p) r.i2 r.b2 [] r.f2, r.ret]
set_option backward.match.sparseCases false in
noncomputable def plX : List Stmt → Option PlX
  | [s1, .Assign [.Name z pz] (.ListComp (.Name y py) [⟨.Name x px, it, _, _⟩, ⟨.Name y2 py2, .Name xx pxx, _, _⟩] scope cp) sp, .For (.Name w1 w1p) i1 b1 _ f1, .Assign [.Name r pr] (.List _ lp) rp, .For (.Name w2 w2p) i2 b2 _ f2, ret] => some ⟨s1, z, pz, y, py, x, px, it, y2, py2, xx, pxx, scope, cp, sp, w1, w1p, i1, b1, f1, r, pr, lp, rp, w2, w2p, i2, b2, f2, ret⟩
  | _ => none
theorem pl_some (w : Wn) : (plX (bodyOf (plFd w))).isSome = true := by kernel_rfl
noncomputable def plG (w : Wn) : PlX := (plX (bodyOf (plFd w))).get (pl_some w)
theorem pl_shape (w : Wn) : bodyOf (plFd w) = (plG w).all := by kernel_rfl
noncomputable def PlX.good (r : PlX) : Bool := r.z == ("words" : Str) && r.y == ("word" : Str) && r.y2 == ("word" : Str) && r.x == ("line" : Str) && r.xx == ("line" : Str) && r.w1 == ("word" : Str) && r.w2 == ("word" : Str) && r.r == ("row" : Str) &&
  r.scope.names.all (fun z => z.2 != .cell && z.2 != .free && (z.2 != .local || r.scope.names.lookup z.1 == some .local)) && (r.scope.names.lookup ("line" : Str) == some .local) && (r.scope.names.lookup ("word" : Str) == some .local) && r.scope.kind == .function
theorem pl_good (w : Wn) : (plG w).good = true := by kernel_rfl
theorem pl_names (w : Wn) : (["one", "other", "lines", "p", "q", "r", "s", "words", "word", "row", "k", "above", "below"] : List Str).all (fun x => (plFd w).scope.names.lookup x == some .local) = true := by kernel_rfl
noncomputable abbrev plCfg (w : Wn) : Cfg := mkCfg (W := WW w) (D := 2) (plFd w).scope tabs ((POrc.abs _ _).or (blt _ _)) (.none _ _)
noncomputable abbrev plL (one oth : Str) (ls : List PV) (p q r s : Int) (ex : List (Str × PV)) : List (Str × PV) := ("one", .s one) :: ("other", .s oth) :: ("lines", .l ls) :: ("p", .i p) :: ("q", .i q) :: ("r", .i r) :: ("s", .i s) :: ex
noncomputable abbrev inb (one x : Str) : Bool := ([one, ("-" : Str) ++ one] : List Str).any (· == x)
noncomputable abbrev kH (x : Str) : Int := if hd1 x = true then -2 else 2
noncomputable abbrev C1 (one x : Str) (d : Bool) (kp kr : Prop) : List Prop := [x.length ≤ sizeLine, hd1 x = true → AllP [], hd1 x = false → AllP [], (("-" : Str) ++ one).length ≤ sizeLine, inb one x = d, kp, kr]
theorem pl_b1T (w : Wn) (one oth x : Str) (ls ws : List PV) (p q r s : Int) : xs (plCfg w) 60 (plG w).b1 [some true] ⟨plL one oth ls p q r s [("words", .l ws), ("word", .s x)], []⟩ =
  some (.next, [], ⟨plL one oth ls p (q + kH x * p) r (s + kH x * r) [("words", .l ws), ("word", .s x), ("k", .i (kH x))], []⟩, C1 one x true (IntMulOk (kH x) p) (IntMulOk (kH x) r)) := by kernel_rfl
theorem pl_b1F (w : Wn) (one oth x : Str) (ls ws : List PV) (p q r s : Int) : xs (plCfg w) 60 (plG w).b1 [some false] ⟨plL one oth ls p q r s [("words", .l ws), ("word", .s x)], []⟩ =
  some (.next, [], ⟨plL one oth ls (p + kH x * q) q (r + kH x * s) s [("words", .l ws), ("word", .s x), ("k", .i (kH x))], []⟩, C1 one x false (IntMulOk (kH x) q) (IntMulOk (kH x) s)) := by kernel_rfl
end PL1
section B1
noncomputable abbrev Lt := Bool × Bool
noncomputable def Lt.inv (x : Lt) : Lt := (x.1, !x.2)
set_option backward.match.sparseCases false in
noncomputable def stepL (x : Lt) : List Lt → List Lt
  | [] => [x]
  | t :: r => if t = Lt.inv x then r else x :: t :: r
structure Mt where
  p : Int
  q : Int
  r : Int
  s : Int
noncomputable def kOf (n : Bool) : Int := if n then -2 else 2
noncomputable def lmul (x : Lt) (m : Mt) : Mt := if x.1 then ⟨m.p, m.q, m.r + kOf x.2 * m.p, m.s + kOf x.2 * m.q⟩ else ⟨m.p + kOf x.2 * m.r, m.q + kOf x.2 * m.s, m.r, m.s⟩
noncomputable def rmul (m : Mt) (x : Lt) : Mt := if x.1 then ⟨m.p + kOf x.2 * m.q, m.q, m.r + kOf x.2 * m.s, m.s⟩ else ⟨m.p, m.q + kOf x.2 * m.p, m.r, m.s + kOf x.2 * m.r⟩
noncomputable abbrev oneM : Mt := ⟨1, 0, 0, 1⟩
noncomputable def mat (w : List Lt) : Mt := w.foldr lmul oneM
theorem Mt.ext' {a b : Mt} (h1 : a.p = b.p) (h2 : a.q = b.q) (h3 : a.r = b.r) (h4 : a.s = b.s) : a = b := by
  cases a; cases b; dsimp only at h1 h2 h3 h4; subst h1 h2 h3 h4; rfl
theorem k_or (n : Bool) : kOf n = 2 ∨ kOf n = -2 := by cases n <;> simp [kOf]
theorem ring1 (k l a b c d : Int) : (a + k * b) + l * (c + k * d) = (a + l * c) + k * (b + l * d) := by
  rw [Int.mul_add, Int.mul_add, Int.mul_left_comm l k d, Int.add_assoc, Int.add_assoc, ← Int.add_assoc (k * b), ← Int.add_assoc (l * c), Int.add_comm (k * b)]
theorem lr_comm (x y : Lt) (m : Mt) : rmul (lmul x m) y = lmul x (rmul m y) := by
  obtain ⟨a, n⟩ := x
  obtain ⟨b, k⟩ := y
  cases a with
  | false => cases b with
    | false => exact Mt.ext' rfl (ring1 ..) rfl rfl
    | true => exact Mt.ext' (ring1 ..) rfl rfl rfl
  | true => cases b with
    | false => exact Mt.ext' rfl rfl rfl (ring1 ..)
    | true => exact Mt.ext' rfl rfl (ring1 ..) rfl
theorem lm_one (x : Lt) : lmul x oneM = rmul oneM x := by
  obtain ⟨a, n⟩ := x
  cases a <;> (unfold lmul rmul; simp)
theorem mat_snoc (x : Lt) : ∀ w : List Lt, mat (w ++ [x]) = rmul (mat w) x
  | [] => lm_one x
  | y :: w => by
    show lmul y (mat (w ++ [x])) = rmul (lmul y (mat w)) x
    rw [mat_snoc x w, lr_comm]
theorem rm_fold : ∀ w u : List Lt, w.foldl rmul (mat u) = mat (u ++ w)
  | [], u => by rw [List.append_nil]; rfl
  | x :: w, u => by
    show w.foldl rmul (rmul (mat u) x) = _
    rw [← mat_snoc, rm_fold w, List.append_assoc]; rfl
theorem kInv (n : Bool) (a b : Int) : a + kOf (!n) * b + kOf n * b = a := by
  have h : kOf (!n) + kOf n = 0 := by cases n <;> rfl
  rw [Int.add_assoc, ← Int.add_mul, h, Int.zero_mul, Int.add_zero]
theorem lm_inv (x : Lt) (m : Mt) : lmul x (lmul (Lt.inv x) m) = m := by
  obtain ⟨a, n⟩ := x
  cases a with
  | false => exact Mt.ext' (kInv ..) (kInv ..) rfl rfl
  | true => exact Mt.ext' rfl rfl (kInv ..) (kInv ..)
theorem mat_step (x : Lt) (w : List Lt) : mat (stepL x w) = lmul x (mat w) := by
  cases w with
  | nil => rfl
  | cons t r =>
    show mat (if t = Lt.inv x then r else x :: t :: r) = _
    by_cases h : t = Lt.inv x
    · rw [if_pos h, h]; exact (lm_inv x (mat r)).symm
    · rw [if_neg h]; rfl
theorem mat_steps (v : List Lt) : ∀ w : List Lt, mat (w.foldr stepL v) = w.foldr lmul (mat v)
  | [] => rfl
  | x :: w => by
    show mat (stepL x (w.foldr stepL v)) = lmul x (w.foldr lmul (mat v))
    rw [mat_step, mat_steps v w]
set_option backward.match.sparseCases false in
noncomputable def Free : List Lt → Prop
  | [] => True
  | [_] => True
  | x :: y :: r => y ≠ Lt.inv x ∧ Free (y :: r)
theorem Free.tail {x : Lt} {r : List Lt} (h : Free (x :: r)) : Free r := by
  cases r with
  | nil => trivial
  | cons y r => exact h.2
theorem free_step (x : Lt) {w : List Lt} (h : Free w) : Free (stepL x w) := by
  cases w with
  | nil => trivial
  | cons t r =>
    show Free (if t = Lt.inv x then r else x :: t :: r)
    by_cases g : t = Lt.inv x
    · rw [if_pos g]; exact h.tail
    · rw [if_neg g]; exact ⟨g, h⟩
theorem free_steps {v : List Lt} (h : Free v) : ∀ w : List Lt, Free (w.foldr stepL v)
  | [] => h
  | x :: w => free_step x (free_steps h w)
noncomputable abbrev nrm (a b : Int) : Nat := a.natAbs + b.natAbs
noncomputable def Peeled (x : Lt) (m m' : Mt) : Prop := if x.1 then nrm m.p m.q < nrm m.r m.s ∧ nrm m'.r m'.s < nrm m.r m.s else nrm m.r m.s < nrm m.p m.q ∧ nrm m'.p m'.q < nrm m.p m.q
theorem abs_conv (a x y : Int) (h : x + y = 0) : 2 * a.natAbs ≤ (a + x).natAbs + (a + y).natAbs := by
  have e : (a + x) + (a + y) = 2 * a := by rw [Int.add_assoc, ← Int.add_assoc x, Int.add_comm x, Int.add_assoc a x, h, Int.add_zero]; exact (Int.two_mul a).symm
  have := Int.natAbs_add_le (a + x) (a + y)
  rw [e, Int.natAbs_mul] at this
  exact this
theorem abs_far (a c x : Int) (h : x = 2 * c ∨ x = -2 * c) : 2 * c.natAbs ≤ (a + x).natAbs + a.natAbs := by
  have e : x.natAbs = 2 * c.natAbs := by rcases h with rfl | rfl <;> exact Int.natAbs_mul ..
  rw [← e]
  have := Int.natAbs_sub_le (a + x) a
  rw [Int.add_comm a x, Int.add_sub_cancel] at this
  rw [Int.add_comm a x]
  exact this
theorem two_le {a b c d e f : Nat} (h : 2 * a ≤ b + c) (g : 2 * d ≤ e + f) : 2 * (a + d) ≤ b + e + (c + f) := by
  rw [Nat.mul_add, Nat.add_add_add_comm]
  exact Nat.add_le_add h g
theorem nrm_conv (a b k l : Int) (h : k + l = 0) (c d : Int) : 2 * nrm a b ≤ nrm (a + k * c) (b + k * d) + nrm (a + l * c) (b + l * d) :=
  have z (x : Int) : k * x + l * x = 0 := by rw [← Int.add_mul, h, Int.zero_mul]
  two_le (abs_conv _ _ _ (z c)) (abs_conv _ _ _ (z d))
theorem nrm_far (a b : Int) (n : Bool) (c d : Int) : 2 * nrm c d ≤ nrm (a + kOf n * c) (b + kOf n * d) + nrm a b :=
  have z (x : Int) : kOf n * x = 2 * x ∨ kOf n * x = -2 * x := by cases n <;> simp [kOf]
  two_le (abs_far _ _ _ (z c)) (abs_far _ _ _ (z d))
theorem nrm_twice (n : Bool) (a b c d : Int) : 2 * nrm (a + kOf n * c) (b + kOf n * d) ≤ nrm (a + kOf n * c + kOf n * c) (b + kOf n * d + kOf n * d) + nrm a b := by
  have h := nrm_conv (a + kOf n * c) (b + kOf n * d) (kOf n) (kOf (!n)) (by cases n <;> rfl) c d
  have i (x y : Int) : x + kOf n * y + kOf (!n) * y = x := by have := kInv (!n) x y; rwa [Bool.not_not] at this
  rwa [i, i] at h
theorem up1 {A B C D : Nat} (h : A < B ∧ C < B) (f : 2 * B ≤ D + C) : A < D ∧ B < D := by omega
theorem up2 {A B X : Nat} (h : A < B) (f : 2 * B ≤ X + A) : B < X ∧ A < X := by omega
theorem peeled (x : Lt) : ∀ w : List Lt, Free (x :: w) → Peeled x (mat (x :: w)) (mat w)
  | [], _ => by
    obtain ⟨a, n⟩ := x
    cases a <;> cases n <;> exact ⟨by decide, by decide⟩
  | y :: w, h => by
    have ih := peeled y w h.2
    have hy := h.1
    show Peeled x (lmul x (lmul y (mat w))) (lmul y (mat w))
    change Peeled y (lmul y (mat w)) (mat w) at ih
    generalize mat w = m at ih ⊢
    obtain ⟨a, n⟩ := x
    obtain ⟨b, k⟩ := y
    by_cases hb : b = a
    · subst hb
      have hk : k = n := by
        cases k <;> cases n <;> first | rfl | exact absurd rfl hy
      subst hk
      cases b with
      | false => exact up1 ih (nrm_twice ..)
      | true => exact up1 ih (nrm_twice ..)
    · cases a with
      | false => cases b with
        | false => exact absurd rfl hb
        | true => exact up2 ih.1 (nrm_far ..)
      | true => cases b with
        | false => exact up2 ih.1 (nrm_far ..)
        | true => exact absurd rfl hb
end B1
section PL2
noncomputable abbrev nA (p q : Int) : Int := (p.natAbs : Int) + (q.natAbs : Int)
noncomputable abbrev kP (p q r s : Int) : Int := if decide (nA (p - 2 * r) (q - 2 * s) < nA p q) = true then 2 else -2
noncomputable abbrev rowW (k : Int) (t : Str) : PV := .s (if (k == 2) = true then t else ("-" : Str) ++ t)
noncomputable abbrev C2 (p q r s : Int) (t : Str) (row : List PV) : List Prop := [IntMulOk 2 r, IntMulOk 2 s, decide (nA (p - 2 * r) (q - 2 * s) < nA p q) = true → AllP [], decide (nA (p - 2 * r) (q - 2 * s) < nA p q) = false → AllP [], IntMulOk (kP p q r s) r, IntMulOk (kP p q r s) s, (kP p q r s == 2) = true → AllP [], (kP p q r s == 2) = false → AllP [(("-" : Str) ++ t).length ≤ sizeLine], Ln row]
noncomputable abbrev ex2 (ws : List PV) (x : Str) (a b : Int) (ex : List (Str × PV)) : List (Str × PV) := ("words", .l ws) :: ("row", .o 0) :: ("word", .s x) :: ("below", .i b) :: ("above", .i a) :: ex
theorem pl_b2A (w : Wn) (one oth x : Str) (ls ws row : List PV) (p q r s : Int) : xs (plCfg w) 60 (plG w).b2 [some true, some false] ⟨plL one oth ls p q r s [("words", .l ws), ("row", .o 0), ("word", .s x)], [.list row]⟩ =
  some (.next, [], ⟨plL one oth ls (p - kP p q r s * r) (q - kP p q r s * s) r s (ex2 ws x (nA p q) (nA r s) [("k", .i (kP p q r s))]), [.list (rowW (kP p q r s) one :: row)]⟩, (decide (nA p q > nA r s) = true) :: (C2 p q r s one row ++ [decide (nA r s > nA p q) = false])) := by kernel_rfl
theorem pl_b2B (w : Wn) (one oth x : Str) (ls ws row : List PV) (p q r s : Int) : xs (plCfg w) 60 (plG w).b2 [some false, some true] ⟨plL one oth ls p q r s [("words", .l ws), ("row", .o 0), ("word", .s x)], [.list row]⟩ =
  some (.next, [], ⟨plL one oth ls p q (r - kP r s p q * p) (s - kP r s p q * q) (ex2 ws x (nA p q) (nA r s) [("k", .i (kP r s p q))]), [.list (rowW (kP r s p q) oth :: row)]⟩, (decide (nA p q > nA r s) = false) :: (decide (nA r s > nA p q) = true) :: C2 r s p q oth row) := by kernel_rfl
theorem pl_b2N (w : Wn) (one oth x : Str) (ls ws row : List PV) (p q r s : Int) : xs (plCfg w) 60 (plG w).b2 [some false, some false] ⟨plL one oth ls p q r s [("words", .l ws), ("row", .o 0), ("word", .s x)], [.list row]⟩ =
  some (.next, [], ⟨plL one oth ls p q r s (ex2 ws x (nA p q) (nA r s) []), [.list row]⟩, [decide (nA p q > nA r s) = false, decide (nA r s > nA p q) = false]) := by kernel_rfl
theorem pl_it (w : Wn) (L : List (Str × PV)) (one oth : Str) (ls : List PV) (p q r s : Int) (objs : List PO) : pf (plCfg w) 10 (plG w).it ⟨plL one oth ls p q r s [], objs⟩ = some (.l ls, objs, []) := by kernel_rfl
theorem pl_i1 (w : Wn) (one oth : Str) (ls ws : List PV) (p q r s : Int) (objs : List PO) : pf (plCfg w) 10 (plG w).i1 ⟨plL one oth ls p q r s [("words", .l ws)], objs⟩ = some (.l ws, objs, []) := by kernel_rfl
theorem pl_i2 (w : Wn) (one oth : Str) (ls ws : List PV) (p q r s : Int) (objs : List PO) : pf (plCfg w) 10 (plG w).i2 ⟨plL one oth ls p q r s [("words", .l ws), ("row", .o 0)], objs⟩ = some (.l ws, objs, []) := by kernel_rfl
theorem pl_fold (w : Wn) (env : Env) (x : Value) : foldedSetIterable (plG w).it env x = pure x ∧ foldedSetIterable (plG w).i1 env x = pure x ∧ foldedSetIterable (plG w).i2 env x = pure x := by refine ⟨?_, ?_, ?_⟩ <;> kernel_rfl
theorem pl_fold2 (w : Wn) (env : Env) (x : Value) : foldedSetIterable (.Name (plG w).xx (plG w).pxx) env x = pure x := by kernel_rfl
theorem pl_sw (w : Wn) : (pureO (swapsWith (plG w).comp (some (.Name (plG w).z (plG w).pz)) (plG w).sp.line (scEnv (plFd w).scope))) = some true := by kernel_rfl
theorem pl_def (w : Wn) : (isDef (WW w).K 794 (plFd w) && hasBody (plFd w)) = true := by kernel_rfl
theorem pl_bind (w : Wn) (a b d : Value) (S : Setting) (sz tk : Nat) : (runAl (WW w).K S 200 sz tk (bindArgs (plFd w) ⟨[a, b, d], []⟩)).map (·.1) = some ([("one", a), ("other", b), ("lines", d)] : List (Str × Value)) := by kernel_rfl
theorem pl_nms (w : Wn) : (["one", "other", "lines"] : List Str).all (fun x => (plFd w).scope.names.lookup x == some .local) = true := by kernel_rfl
end PL2
section PL3
structure Names2 (a b : List Nat) : Prop where
  ha : a.head? ≠ some 45
  hb : b.head? ≠ some 45
  ne : a ≠ b
  la : a.length ≤ 9
  lb : b.length ≤ 9
noncomputable def txtL (a b : List Nat) (x : Lt) : List Nat := (if x.2 then [45] else []) ++ (if x.1 then b else a)
noncomputable abbrev sL (a b : List Nat) (ws : List Lt) : List PV := ws.map fun x => .s (tx (txtL a b x))
theorem hd1_tx (t : List Nat) : hd1 (tx t) = (t.take 1 == [45]) := by
  unfold hd1
  rw [slice_hd]; rfl
theorem head_no {t : List Nat} (h : t.head? ≠ some 45) : (t.take 1 == [45]) = false := by
  cases t with
  | nil => rfl
  | cons c r =>
    refine beq_eq_false_iff_ne.mpr fun q => h ?_
    have q : [c] = [45] := q
    cases q; rfl
section
variable {a b : List Nat} (N : Names2 a b)
include N
theorem kH_tx (x : Lt) : kH (tx (txtL a b x)) = kOf x.2 := by
  obtain ⟨l, n⟩ := x
  have key : hd1 (tx (txtL a b (l, n))) = n := by
    rw [hd1_tx]
    cases n with
    | true => cases l <;> rfl
    | false =>
      cases l with
      | true => exact head_no N.hb
      | false => exact head_no N.ha
  show (if hd1 _ = true then (-2 : Int) else 2) = kOf n
  rw [key]; rfl
omit N in
theorem str_beq (t u : List Nat) : (tx t == tx u) = decide (t = u) := by
  by_cases h : t = u
  · rw [h, decide_eq_true rfl]; exact beq_self_eq_true _
  · rw [decide_eq_false h]
    refine beq_eq_false_iff_ne.mpr fun q => h ?_
    have := congrArg (fun z : Str => z.cps.toList) q
    exact this
theorem inb_tx (x : Lt) : inb (tx a) (tx (txtL a b x)) = !x.1 := by
  show ([tx a, ("-" : Str) ++ tx a] : List Str).any (· == tx (txtL a b x)) = !x.1
  rw [tx_min]
  show (tx a == _ || (tx (45 :: a) == _ || false)) = _
  rw [str_beq, str_beq, Bool.or_false]
  obtain ⟨l, n⟩ := x
  have ca : ∀ t : List Nat, a ≠ 45 :: t := fun t q => N.ha (by rw [q]; rfl)
  have cb : ∀ t : List Nat, b ≠ 45 :: t := fun t q => N.hb (by rw [q]; rfl)
  cases l with
  | false =>
    cases n with
    | false => show (decide (a = a) || _) = true; rw [decide_eq_true rfl]; rfl
    | true => show (_ || decide (45 :: a = 45 :: a)) = true; rw [decide_eq_true rfl, Bool.or_true]
  | true =>
    cases n with
    | false =>
      show (decide (a = b) || decide (45 :: a = b)) = false
      rw [decide_eq_false N.ne, decide_eq_false fun q => cb a q.symm]; rfl
    | true =>
      show (decide (a = 45 :: b) || decide (45 :: a = 45 :: b)) = false
      rw [decide_eq_false (ca b), decide_eq_false fun q => N.ne (List.cons.inj q).2]; rfl
theorem len_txt (x : Lt) : (txtL a b x).length ≤ 10 := by
  obtain ⟨l, n⟩ := x
  have := N.la
  have := N.lb
  unfold txtL
  rw [List.length_append]
  cases l <;> cases n <;> simp <;> omega
end
structure Bm (n : Nat) (m : Mt) : Prop where
  p : m.p.natAbs ≤ 3 ^ n
  q : m.q.natAbs ≤ 3 ^ n
  r : m.r.natAbs ≤ 3 ^ n
  s : m.s.natAbs ≤ 3 ^ n
theorem b_add {x y k : Int} {n : Nat} (hk : k = 2 ∨ k = -2) (hx : x.natAbs ≤ 3 ^ n) (hy : y.natAbs ≤ 3 ^ n) : (x + k * y).natAbs ≤ 3 ^ (n + 1) := by
  have e : (k * y).natAbs = 2 * y.natAbs := by rcases hk with rfl | rfl <;> exact Int.natAbs_mul ..
  have h := Int.natAbs_add_le x (k * y)
  rw [e] at h
  refine Nat.le_trans h (Nat.le_trans (Nat.add_le_add hx (Nat.mul_le_mul_left 2 hy)) (Nat.le_of_eq ?_))
  show 3 ^ n + 2 * 3 ^ n = 3 ^ n * 3
  rw [Nat.mul_comm (3 ^ n), Nat.add_comm, ← Nat.succ_mul]
theorem b_up {x : Int} {n : Nat} (hx : x.natAbs ≤ 3 ^ n) : x.natAbs ≤ 3 ^ (n + 1) := Nat.le_trans hx (Nat.pow_le_pow_right (by decide) (Nat.le_succ n))
theorem bm_one : Bm 0 oneM := ⟨by decide, by decide, by decide, by decide⟩
theorem Bm.rmul {n : Nat} {m : Mt} (h : Bm n m) (x : Lt) : Bm (n + 1) (rmul m x) := by
  have hk := k_or x.2
  unfold Mine.rmul
  split
  · exact ⟨b_add hk h.p h.q, b_up h.q, b_add hk h.r h.s, b_up h.s⟩
  · exact ⟨b_up h.p, b_add hk h.q h.p, b_up h.r, b_add hk h.s h.r⟩
theorem Bm.lmul {n : Nat} {m : Mt} (h : Bm n m) (x : Lt) : Bm (n + 1) (lmul x m) := by
  have hk := k_or x.2
  unfold Mine.lmul
  split
  · exact ⟨b_up h.p, b_up h.q, b_add hk h.r h.p, b_add hk h.s h.q⟩
  · exact ⟨b_add hk h.p h.r, b_add hk h.q h.s, b_up h.r, b_up h.s⟩
theorem bm_mat : ∀ w : List Lt, Bm w.length (mat w)
  | [] => bm_one
  | x :: w => (bm_mat w).lmul x
theorem mul_ok {k x : Int} {n : Nat} (hk : k = 2 ∨ k = -2) (hn : n ≤ 1000) (hx : x.natAbs ≤ 3 ^ n) : IntMulOk k x := by
  have h1 : Builtin.Int.intBits k ≤ 2 := by rcases hk with rfl | rfl <;> decide
  refine mulOk_of_bits (n := 2000) h1 ?_ (by decide)
  unfold Builtin.Int.intBits
  split
  · exact Nat.zero_le _
  · rename_i h
    have hx0 : x.natAbs ≠ 0 := fun q => h (by have : x = 0 := Int.natAbs_eq_zero.mp q; rw [this]; rfl)
    have : x.natAbs < 2 ^ 2000 := by
      refine Nat.lt_of_le_of_lt hx (Nat.lt_of_le_of_lt (Nat.pow_le_pow_right (by decide) hn) ?_)
      decide +kernel
    have := (Nat.log2_lt hx0).mpr this
    omega
end PL3
section PL4
theorem sxg_for {c : Fc} {V V' : View} {x : Str} {px fp : Pos} {iter : Expr} {body : List Stmt} {ps : List PV} (ok : c.Ok) (hh : c.A.handled = none) (hk : c.env.kindOf x = some .local) (hit : EvOk c iter V (.l ps) V) (hf : ∀ y, foldedSetIterable iter c.env y = pure y) (F : ForG c x body ps V V') : SxG c (.For (.Name x px) iter body [] fp) V .next V' := by
  intro s Q E I l k
  refine wpAny_For (hit s _ E I fun s1 v I1 t1 i1 => ?_) hf
  obtain ⟨a, ob, arr, n, si, il⟩ := i1.il
  have hv := si.v
  subst hv
  refine wpAny_pyIter_list si.isList ?_
  have N := it_new (l := a) ok I1
  have ls3 := keep_list N.keep (fun z => nomatch z) si.isList
  have no0 : s.heap.get? s1.heap.objs.size = none := by
    cases q : s.heap.get? s1.heap.objs.size with
    | none => rfl
    | some o => obtain ⟨o', e'⟩ := t1.keep.there _ o q; rw [N.no] at e'; cases e'
  have lno : a ∉ s1.heap.objs.size :: c.T := fun z => by
    rcases List.mem_cons.mp z with z | z
    · obtain ⟨o, e, _⟩ := si.isList; rw [z, N.no] at e; cases e
    · exact si.out z
  have il3 := (il.more N.no).keep (N.keep.all (T := s1.heap.objs.size :: c.T))
  have nIt : s1.heap.objs.size ∉ c.T := fun z => by obtain ⟨o, e⟩ := I1.live _ z; rw [N.no] at e; exact no e
  refine for_goI (c := c) (x := x) (s0 := s) (vs := arr.toList) (ps := ps) (T := s1.heap.objs.size :: c.T) (ρ := c.ρ) hh hk no0 nIt (Nat.zero_le _) ⟨N.g.from t1.keep, .head _, N.hm, N.inv, l, t1.trans N.st, N.it, ls3, lno, ?_, F⟩ fun s7 T ρ g7 l7 I7 t7 => k s7 _ T ρ g7 l7 I7 t7 rfl
  rw [List.drop_zero, List.drop_zero]
  exact il3
structure PlC (w : Wn) (c : Fc) : Prop where
  ok : c.Ok
  e : c.toWd = WW w
  room : Room c.A.in1 2
  hs : c.env.scope = (plFd w).scope
theorem pl_gk {w : Wn} {c : Fc} (R : PlC w c) {T : List Addr} {ρ : List (Addr × Addr)} (ok : (c.at T ρ).Ok) : CfgOk (c.at T ρ) (plCfg w) := mkCfg_ok (c := c.at T ρ) (t := tabs) ok R.e R.room (by decide) R.hs (tabs_ok w)
theorem pl_kind {w : Wn} {c : Fc} (R : PlC w c) {x : Str} (h : x ∈ (["one", "other", "lines", "p", "q", "r", "s", "words", "word", "row", "k", "above", "below"] : List Str)) : c.env.kindOf x = some .local := by
  unfold Env.kindOf
  rw [R.hs]; exact beq_iff_eq.mp (List.all_eq_true.mp (pl_names w) _ h)
theorem tx_small {t : List Nat} (h : t.length ≤ 1000) : (tx t).length ≤ sizeLine := by rw [tx_len, sizeLine_eq]; omega
noncomputable abbrev plM (a b : List Nat) (ls : List PV) (m : Mt) (ex : List (Str × PV)) : List (Str × PV) := plL (tx a) (tx b) ls m.p m.q m.r m.s ex
section
variable {w : Wn} {c : Fc} {a b : List Nat} (R : PlC w c) (N : Names2 a b) (ls W : List PV)
include R N
theorem turn1 {T : List Addr} {ρ : List (Addr × Addr)} (ok : (c.at T ρ).Ok) (x : Lt) {m : Mt} {n : Nat} (hm : Bm n m) (hn : n ≤ 1000) : ExOk (c.at T ρ) (plG w).b1 ⟨plM a b ls m [("words", .l W), ("word", .s (tx (txtL a b x)))], []⟩ .next ⟨plM a b ls (rmul m x) [("words", .l W)], []⟩ := by
  have gk := pl_gk R ok
  have lx : (tx (txtL a b x)).length ≤ sizeLine := tx_small (Nat.le_trans (len_txt N x) (by decide))
  have la : (("-" : Str) ++ tx a).length ≤ sizeLine := by rw [tx_min]; refine tx_small ?_; rw [List.length_cons]; have := N.la; omega
  have hk := kH_tx N x
  have hi := inb_tx N x
  have k2 := k_or x.2
  cases e : x.1 with
  | false =>
    rw [e] at hi
    have run := pl_b1T w (tx a) (tx b) (tx (txtL a b x)) ls W m.p m.q m.r m.s
    rw [hk] at run
    have em : rmul m x = ⟨m.p, m.q + kOf x.2 * m.p, m.r, m.s + kOf x.2 * m.r⟩ := by unfold rmul; rw [e]; rfl
    rw [em]
    exact ExOk.drop (l := plM a b ls ⟨m.p, m.q + kOf x.2 * m.p, m.r, m.s + kOf x.2 * m.r⟩ [("words", .l W)]) (r := [("word", .s (tx (txtL a b x))), ("k", .i (kOf x.2))]) ((sx_sound ok gk 60).2 _ _ _ _ _ _ _ run ⟨lx, fun _ => trivial, fun _ => trivial, la, hi, mul_ok k2 hn hm.p, mul_ok k2 hn hm.r, trivial⟩)
  | true =>
    rw [e] at hi
    have run := pl_b1F w (tx a) (tx b) (tx (txtL a b x)) ls W m.p m.q m.r m.s
    rw [hk] at run
    have em : rmul m x = ⟨m.p + kOf x.2 * m.q, m.q, m.r + kOf x.2 * m.s, m.s⟩ := by unfold rmul; rw [e]; rfl
    rw [em]
    exact ExOk.drop (l := plM a b ls ⟨m.p + kOf x.2 * m.q, m.q, m.r + kOf x.2 * m.s, m.s⟩ [("words", .l W)]) (r := [("word", .s (tx (txtL a b x))), ("k", .i (kOf x.2))]) ((sx_sound ok gk 60).2 _ _ _ _ _ _ _ run ⟨lx, fun _ => trivial, fun _ => trivial, la, hi, mul_ok k2 hn hm.q, mul_ok k2 hn hm.s, trivial⟩)
theorem loop1 : ∀ (ws : List Lt) (m : Mt) (n : Nat), Bm n m → n + ws.length ≤ 1000 → ForG c "word" (plG w).b1 (sL a b ws) ⟨plM a b ls m [("words", .l W)], []⟩ ⟨plM a b ls (ws.foldl rmul m) [("words", .l W)], []⟩
  | [], m, n, _, _ => .stop
  | x :: ws, m, n, hm, hn => by
    rw [List.length_cons] at hn
    exact .step (f := .next) (fun T ρ ok => (turn1 R N ls W ok x hm (by omega)).g ok rfl) (.inl rfl) (loop1 ws (rmul m x) (n + 1) (hm.rmul x) (by omega))
omit R N in
theorem nA_nrm (p q : Int) : nA p q = (nrm p q : Int) := rfl
omit R N in
theorem addB (x y : Int) : x + -2 * y + 2 * y = x := by omega
omit R N in
theorem addC (x y : Int) : x + -2 * y = x - 2 * y := by omega
omit R N in
theorem up3 {A B C : Nat} (h : A < B) (f : 2 * B ≤ A + C) : ¬ (C : Int) < (B : Int) := by omega
omit R N in
theorem kP_is {p q r s p' q' : Int} {n : Bool} (h1 : nrm p' q' < nrm p q) (e1 : p = p' + kOf n * r) (e2 : q = q' + kOf n * s) : kP p q r s = kOf n := by
  unfold kP
  rw [nA_nrm, nA_nrm]
  cases n with
  | false =>
    rw [show p - 2 * r = p' by rw [e1]; exact Int.add_sub_cancel .., show q - 2 * s = q' by rw [e2]; exact Int.add_sub_cancel .., decide_eq_true (Int.ofNat_lt.mpr h1), if_pos rfl]; rfl
  | true =>
    have cv := nrm_conv p q 2 (-2) rfl r s
    rw [show p + 2 * r = p' by rw [e1]; exact addB .., show q + 2 * s = q' by rw [e2]; exact addB .., addC, addC] at cv
    rw [decide_eq_false (up3 h1 cv)]; rfl
omit R N in
theorem row_is (a b : List Nat) (l n : Bool) : rowW (kOf n) (tx (if l then b else a)) = .s (tx (txtL a b (l, n))) := by
  cases n with
  | false => show PV.s (if ((2 : Int) == 2) = true then _ else _) = _; rw [if_pos (by decide)]; rfl
  | true => show PV.s (if ((-2 : Int) == 2) = true then _ else _) = _; rw [if_neg (by decide), tx_min]; rfl
theorem turn2 {T : List Addr} {ρ : List (Addr × Addr)} (ok : (c.at T ρ).Ok) (y : Str) (v : List Lt) (acc : List Lt) (hf : Free v) (hv : v.length ≤ 1000) (ha : acc.length ≤ 1000) : ExOk (c.at T ρ) (plG w).b2 ⟨plM a b ls (mat v) [("words", .l W), ("row", .o 0), ("word", .s y)], [.list (sL a b acc)]⟩ .next ⟨plM a b ls (mat (v.drop 1)) [("words", .l W), ("row", .o 0)], [.list (sL a b (v.take 1 ++ acc))]⟩ := by
  have gk := pl_gk R ok
  have ln : Ln (sL a b acc) := by show _ ≤ 1000000; rw [List.length_map]; omega
  cases v with
  | nil =>
    have run := pl_b2N w (tx a) (tx b) y ls W (sL a b acc) 1 0 0 1
    exact ExOk.drop (l := plM a b ls oneM [("words", .l W), ("row", .o 0)]) (r := [("word", .s y), ("below", .i (nA 0 1)), ("above", .i (nA 1 0))]) ((sx_sound ok gk 60).2 _ _ _ _ _ _ _ run ⟨by decide, by decide, trivial⟩)
  | cons x v =>
    have pe := peeled x v hf
    have bm := bm_mat (x :: v)
    have em : mat (x :: v) = lmul x (mat v) := rfl
    rw [List.drop_one, List.tail_cons, List.take_one, List.head?_cons]
    show ExOk _ _ _ _ ⟨plM a b ls (mat v) _, [.list (.s (tx (txtL a b x)) :: sL a b acc)]⟩
    have k2 := k_or x.2
    obtain ⟨l, n⟩ := x
    have hm0 : mat ((l, n) :: v) = mat ((l, n) :: v) := rfl
    have la' : (("-" : Str) ++ tx a).length ≤ sizeLine := by rw [tx_min]; refine tx_small ?_; rw [List.length_cons]; have := N.la; omega
    have lb' : (("-" : Str) ++ tx b).length ≤ sizeLine := by rw [tx_min]; refine tx_small ?_; rw [List.length_cons]; have := N.lb; omega
    generalize mat ((l, n) :: v) = m at *
    generalize mat v = m' at *
    cases l with
    | false =>
      have e1 : m.p = m'.p + kOf n * m'.r := by rw [em]; rfl
      have e2 : m.q = m'.q + kOf n * m'.s := by rw [em]; rfl
      have e3 : m.r = m'.r := by rw [em]; rfl
      have e4 : m.s = m'.s := by rw [em]; rfl
      have p1 : nrm m.r m.s < nrm m.p m.q := pe.1
      have p2 : nrm m'.p m'.q < nrm m.p m.q := pe.2
      have hk : kP m.p m.q m.r m.s = kOf n := kP_is p2 (by rw [e3]; exact e1) (by rw [e4]; exact e2)
      have run := pl_b2A w (tx a) (tx b) y ls W (sL a b acc) m.p m.q m.r m.s
      unfold C2 at run
      rw [hk, show rowW (kOf n) (tx a) = _ from row_is a b false n, show m.p - kOf n * m.r = m'.p by rw [e1, e3]; omega, show m.q - kOf n * m.s = m'.q by rw [e2, e4]; omega] at run
      have em' : (⟨m'.p, m'.q, m.r, m.s⟩ : Mt) = m' := by rw [e3, e4]
      have g1 : decide (nA m.p m.q > nA m.r m.s) = true := by rw [nA_nrm, nA_nrm]; exact decide_eq_true (Int.ofNat_lt.mpr p1)
      have g2 : decide (nA m.r m.s > nA m.p m.q) = false := by rw [nA_nrm, nA_nrm]; exact decide_eq_false (by omega)
      have res := (sx_sound ok gk 60).2 _ _ _ _ _ _ _ run ⟨g1, mul_ok (.inl rfl) hv bm.r, mul_ok (.inl rfl) hv bm.s, fun _ => trivial, fun _ => trivial, mul_ok k2 hv bm.r, mul_ok k2 hv bm.s, fun _ => trivial, fun _ => ⟨la', trivial⟩, ln, g2, trivial⟩
      have := ExOk.drop (l := plM a b ls ⟨m'.p, m'.q, m.r, m.s⟩ [("words", .l W), ("row", .o 0)]) (r := [("word", .s y), ("below", .i (nA m.r m.s)), ("above", .i (nA m.p m.q)), ("k", .i (kOf n))]) res
      rw [em'] at this
      exact this
    | true =>
      have e1 : m.r = m'.r + kOf n * m'.p := by rw [em]; rfl
      have e2 : m.s = m'.s + kOf n * m'.q := by rw [em]; rfl
      have e3 : m.p = m'.p := by rw [em]; rfl
      have e4 : m.q = m'.q := by rw [em]; rfl
      have p1 : nrm m.p m.q < nrm m.r m.s := pe.1
      have p2 : nrm m'.r m'.s < nrm m.r m.s := pe.2
      have hk : kP m.r m.s m.p m.q = kOf n := kP_is p2 (by rw [e3]; exact e1) (by rw [e4]; exact e2)
      have run := pl_b2B w (tx a) (tx b) y ls W (sL a b acc) m.p m.q m.r m.s
      unfold C2 at run
      rw [hk, show rowW (kOf n) (tx b) = _ from row_is a b true n, show m.r - kOf n * m.p = m'.r by rw [e1, e3]; omega, show m.s - kOf n * m.q = m'.s by rw [e2, e4]; omega] at run
      have em' : (⟨m.p, m.q, m'.r, m'.s⟩ : Mt) = m' := by rw [e3, e4]
      have g1 : decide (nA m.p m.q > nA m.r m.s) = false := by rw [nA_nrm, nA_nrm]; exact decide_eq_false (by omega)
      have g2 : decide (nA m.r m.s > nA m.p m.q) = true := by rw [nA_nrm, nA_nrm]; exact decide_eq_true (Int.ofNat_lt.mpr p1)
      have res := (sx_sound ok gk 60).2 _ _ _ _ _ _ _ run ⟨g1, g2, mul_ok (.inl rfl) hv bm.p, mul_ok (.inl rfl) hv bm.q, fun _ => trivial, fun _ => trivial, mul_ok k2 hv bm.p, mul_ok k2 hv bm.q, fun _ => trivial, fun _ => ⟨lb', trivial⟩, ln, trivial⟩
      have := ExOk.drop (l := plM a b ls ⟨m.p, m.q, m'.r, m'.s⟩ [("words", .l W), ("row", .o 0)]) (r := [("word", .s y), ("below", .i (nA m.r m.s)), ("above", .i (nA m.p m.q)), ("k", .i (kOf n))]) res
      rw [em'] at this
      exact this
theorem loop2 : ∀ (ys : List PV) (v acc : List Lt), (∀ p ∈ ys, ∃ t, p = .s t) → Free v → v.length ≤ 1000 → acc.length + v.length ≤ 1000 → ForG c "word" (plG w).b2 ys ⟨plM a b ls (mat v) [("words", .l W), ("row", .o 0)], [.list (sL a b acc)]⟩ ⟨plM a b ls (mat (v.drop ys.length)) [("words", .l W), ("row", .o 0)], [.list (sL a b ((v.take ys.length).reverse ++ acc))]⟩
  | [], v, acc, _, _, _, _ => .stop
  | y :: ys, v, acc, hy, hf, hv, ha => by
    obtain ⟨t, rfl⟩ := hy y (.head _)
    have ih := loop2 ys (v.drop 1) (v.take 1 ++ acc) (fun p hp => hy p (.tail _ hp)) (by cases v with | nil => exact hf | cons x v => exact hf.tail) (by rw [List.length_drop]; omega) (by rw [List.length_append, List.length_drop, List.length_take]; omega)
    have e1 : v.drop (ys.length + 1) = (v.drop 1).drop ys.length := by rw [List.drop_drop, Nat.add_comm]
    have e2 : (v.take (ys.length + 1)).reverse ++ acc = ((v.drop 1).take ys.length).reverse ++ (v.take 1 ++ acc) := by
      cases v with
      | nil => simp
      | cons x v => simp
    rw [List.length_cons, e1, e2]
    exact .step (f := .next) (fun T ρ ok => (turn2 R N ls W ok t v acc hf hv (by omega)).g ok rfl) (.inl rfl) ih
end
end PL4
section PL5
theorem ints_get {T : List Addr} {ρ : List (Addr × Addr)} {h : Heap} : ∀ {ns : List Int} {vs : List Value}, IsL T ρ h (iS ns) vs → ∀ (i : Nat) (n : Int), ns[i]? = some n → ∃ t, vs[i]? = some (.int n t)
  | [], _, _, i, n, e => by simp at e
  | a :: r, _, .cons x y, 0, n, e => by
    have : a = n := by simpa using e
    subst this
    obtain ⟨u, rfl⟩ := Is.ii x
    exact ⟨u, rfl⟩
  | a :: r, _, .cons x y, i + 1, n, e => ints_get y i n (by simpa using e)
theorem for_listD {c : Fc} {s0 s1 : Shared} {T1 : List Addr} {ρ1 : List (Addr × Addr)} {V : View} {x : Str} {px pf : Pos} {it : Expr} {body : List Stmt} {ns : List Int} {Q : Flow → Shared → Prop} {E : Value → Shared → Prop} (J : Nat → View → Prop) (hh : c.A.handled = none) (hk : c.env.kindOf x = some .local) (b1 : BAt c s0 V T1 ρ1 s1) (hit : EvOk (c.at T1 ρ1) it V (.l (iS ns)) V) (hf : ∀ x, foldedSetIterable it c.env x = pure x)
    (step : ∀ (It l : Addr) (vs : List Value) (i : Nat) (n : Int) (V : View) (T : List Addr) (ρ : List (Addr × Addr)) (s : Shared) (E : Value → Shared → Prop), ns[i]? = some n → J i V → DAt c s0 It l vs (i + 1) { V with loc := put x (.i n) V.loc } T ρ s → wpAny c.M c.A (execs body c.env) (fun fl s' => fl = .next ∧ ∃ V' T' ρ', J (i + 1) V' ∧ DAt c s0 It l vs (i + 1) V' T' ρ' s') E s)
    (j0 : J 0 V) (k : ∀ V' T' ρ' s', J ns.length V' → BAt c s0 V' T' ρ' s' → Q .next s') : wpAny c.M c.A (exec (.For (.Name x px) it body [] pf) c.env) Q E s1 := by
  refine wpAny_For (hit s1 _ E b1.inv fun s2 v I2 t2 i2 => ?_) hf
  obtain ⟨l, ob, arr, n, si, il⟩ := i2.il
  have hv := si.v
  subst hv
  refine wpAny_pyIter_list si.isList ?_
  have b2 : BAt c s0 V T1 ρ1 s2 := b1.go (.refl b1.g.ok) b1.len I2 t2
  have N := it_new (c := c.at T1 ρ1) (l := l) b2.g.ok I2
  have no0 : s0.heap.get? s2.heap.objs.size = none := by
    cases q : s0.heap.get? s2.heap.objs.size with
    | none => rfl
    | some o => obtain ⟨o', e'⟩ := b2.st.keep.there _ o q; rw [N.no] at e'; cases e'
  have lno : l ∉ s2.heap.objs.size :: T1 := fun z => by
    rcases List.mem_cons.mp z with z | z
    · obtain ⟨o, e, _⟩ := si.isList; rw [z, N.no] at e; cases e
    · exact si.out z
  have ls3 := keep_list N.keep (fun z => nomatch z) si.isList
  have hlen : arr.toList.length = ns.length := by have := il.length; rw [List.length_map] at this; omega
  have nIt : s2.heap.objs.size ∉ c.T := fun z => by obtain ⟨o, e⟩ := b2.inv.live _ (b2.g.sub _ z); rw [N.no] at e; exact no e
  exact for_goD (c := c) (x := x) (ns := ns) (vs := arr.toList) J hh hk no0 nIt hlen (fun i n h => ints_get il i n h) (fun i n V T ρ s E hn hV a => step _ _ _ i n V T ρ s E hn hV a) ⟨b2.g.trans b2.st.keep N.g, .head _, N.hm, N.inv, b2.len, b2.g.keep b2.st N.st, N.it, ls3, lno⟩ j0 k
theorem pf_ev {c : Fc} {g : Cfg} {n : Nat} {e : Expr} {V : View} {p : PV} {objs : List PO} {P : List Prop} (ok : c.Ok) (gk : CfgOk c g) (h : pf g n e V = some (p, objs, P)) (hP : AllP P) : EvOk c e V p ⟨V.loc, objs⟩ := (pf_ok ok gk n).e _ _ _ _ _ h hP
theorem spec_freeze {W : Wd} {D : Nat} {f : Value} {ps : List PV} {k : Nat} {xs : List PV} {objs' : List PO} (h : SpecK W D f ps [] [] (.o k) objs') (hp : PV.ltL 0 ps = true) (ho : objs'[k]? = some (.list xs)) (hx : PV.ltL 0 xs = true) : SpecP W D f ps (.l xs.reverse) := by
  rintro objs c ok rfl room s vs Q E B live frs O ia hq
  let c0 : Fc := { c with ρ := [] }
  have ok0 : c0.Ok := ⟨⟨fun b hb => ok.fx.mem b (by rcases List.mem_cons.mp hb with rfl | hb; exact .head _; cases hb), by show [c.L].Nodup; simp, ok.fx.low⟩, ok.kind, ok.loc, ok.glb, ok.blt, ok.lowK, ok.lo⟩
  have ia0 : IsL c.T [] s.heap ps vs := IsL.back (T := c.T) (T' := c.T) (ρ := []) (ν := c.ρ) (fun _ h => h) (by simpa using ia) hp
  refine wpAny_call (h c0 ok0 rfl room s vs [] _ B live frs (fun k po e => by simp at e) rfl ia0 rfl .nil fun s' v T ρ g l st B' F' live' O' i' => ?_)
  have st0 : St c.N [] s s' := ⟨st.keep, st.gens, st.os⟩
  refine hq s' v st0.all B' F' (fun k po e => (O k po e).keep st0.keep (fun _ _ _ z => nomatch z) (fun _ z => nomatch z) st0.keep.all) ?_
  obtain ⟨ν, eρ, hν⟩ := g.ext
  have eρ : ρ = ν := eρ
  have i0 : Is c.T [] s'.heap (.l xs.reverse) v := Is.froze i' (O' k _ ho) g.sub (fun p hp z => by
    obtain ⟨o, e⟩ := live _ z
    rw [hν p (eρ ▸ hp)] at e; cases e) hx
  have := Is.grow (T := c.T) (T' := c.T) (ρ := []) (ν := c.ρ) (fun b hb => .inl hb) i0
  simpa using this
theorem pl_s1x (w : Wn) (one oth : Str) (ls : List PV) : sx (plCfg w) 60 (plG w).s1 [] ⟨[("one", .s one), ("other", .s oth), ("lines", .l ls)], []⟩ = some (.next, [], ⟨plL one oth ls 1 0 0 1 [], []⟩, []) := by kernel_rfl
theorem pl_retx (w : Wn) (one oth : Str) (ls ws row : List PV) (p q r s : Int) : sx (plCfg w) 10 (plG w).ret [] ⟨plL one oth ls p q r s [("words", .l ws), ("row", .o 0)], [.list row]⟩ = some (.ret (.o 0), [], ⟨plL one oth ls p q r s [("words", .l ws), ("row", .o 0)], [.list row]⟩, []) := by kernel_rfl
theorem swaps_same (v : Expr) (t : Option Expr) (l : Nat) : ∀ a b : Env, a.scope = b.scope → swapsWith v t l a = swapsWith v t l b := fun a b h => by
  obtain ⟨⟩ := a
  obtain ⟨⟩ := b
  cases h
  rfl
theorem sL_lt (a b : List Nat) (n : Nat) : ∀ ws : List Lt, PV.ltL n (sL a b ws) = true
  | [] => rfl
  | x :: r => by show (true && PV.ltL n (sL a b r)) = true; rw [sL_lt a b n r]; rfl
theorem sL_ss (a b : List Nat) (ws : List Lt) : ∀ p ∈ sL a b ws, ∃ t, p = .s t := fun p hp => by
  obtain ⟨x, _, rfl⟩ := List.mem_map.mp hp
  exact ⟨_, rfl⟩
noncomputable abbrev lnL (a b : List Nat) (lines : List (List Lt)) : List PV := (lines.map (sL a b)).map PV.l
theorem lnL_lt (a b : List Nat) (n : Nat) : ∀ ls : List (List Lt), PV.ltL n (lnL a b ls) = true
  | [] => rfl
  | x :: r => by show (PV.ltL n (sL a b x) && PV.ltL n (lnL a b r)) = true; rw [sL_lt, lnL_lt a b n r]; rfl
theorem flat_sL (a b : List Nat) : ∀ ls : List (List Lt), (ls.map (sL a b)).flatten = sL a b ls.flatten
  | [] => rfl
  | x :: r => by show sL a b x ++ (r.map (sL a b)).flatten = sL a b (x ++ r.flatten); rw [flat_sL a b r]; unfold sL; rw [List.map_append]
theorem pl_body {w : Wn} {c : Fc} {a b : List Nat} (R : PlC w c) (N : Names2 a b) (lines : List (List Lt)) (v : List Lt) (hm : mat lines.flatten = mat v) (hf : Free v) (hv : v.length ≤ lines.flatten.length) (hn : lines.flatten.length ≤ 1000) : ExG c (plG w).all ⟨[("one", .s (tx a)), ("other", .s (tx b)), ("lines", .l (lnL a b lines))], []⟩ (.ret (.o 0)) ⟨plM a b (lnL a b lines) oneM [("words", .l (sL a b lines.flatten)), ("row", .o 0)], [.list (sL a b v.reverse)]⟩ := by
  have g := pl_good w
  unfold PlX.good at g
  simp only [Bool.and_eq_true, beq_iff_eq] at g
  obtain ⟨⟨⟨⟨⟨⟨⟨⟨⟨⟨⟨g1, g2⟩, g3⟩, g4⟩, g5⟩, g6⟩, g7⟩, g8⟩, g9⟩, g10⟩, g11⟩, g12⟩ := g
  have gk := mkCfg_ok (c := c) (t := tabs) (po := (POrc.abs _ 2).or (blt _ _)) (eo := .none _ _) R.ok R.e R.room (by decide) R.hs (tabs_ok w)
  unfold PlX.all
  refine exg_cons (((sx_ok R.ok gk 60).s _ _ _ _ _ _ _ (pl_s1x w (tx a) (tx b) (lnL a b lines)) trivial).g R.ok rfl) fun T ρ ok => ?_
  have gk1 := pl_gk R ok
  have hsc : ∀ z ∈ (plG w).scope.names, z.2 ≠ .free ∧ z.2 ≠ .cell ∧ (z.2 = .local → (plG w).scope.names.lookup z.1 = some .local) := fun z hz => by
    have := List.all_eq_true.mp g9 z hz
    obtain ⟨h12, h3⟩ := Bool.and_eq_true_iff.mp this
    obtain ⟨h1, h2⟩ := Bool.and_eq_true_iff.mp h12
    refine ⟨fun q => (by rw [q] at h2; cases h2), fun q => (by rw [q] at h1; cases h1), fun q => ?_⟩
    rw [q] at h3
    rcases Bool.or_eq_true_iff.mp h3 with h3 | h3
    · cases h3
    · exact eq_of_beq h3
  have hcomp : SxOk (c.at T ρ) (.Assign [.Name (plG w).z (plG w).pz] (plG w).comp (plG w).sp) ⟨plM a b (lnL a b lines) oneM [], []⟩ .next ⟨plM a b (lnL a b lines) oneM [("words", .l (sL a b lines.flatten))], []⟩ := by
    have hsw : swapsWith (plG w).comp (some (.Name (plG w).z (plG w).pz)) (plG w).sp.line (c.at T ρ).env = pure true := (swaps_same _ _ _ _ _ R.hs).trans (pureO_is (pl_sw w))
    have hit := pf_ev ok gk1 (pl_it w [] (tx a) (tx b) (lnL a b lines) 1 0 0 1 []) trivial
    have hp2 : ∀ C z, foldedSetIterable (.Name (plG w).xx (plG w).pxx) (compEnv (plG w).scope C (c.at T ρ).env) z = pure z := fun C z => pl_fold2 w _ z
    unfold PlX.comp at hsw ⊢
    rw [g1, g2, g3, g4, g5] at hsw ⊢
    rw [g5] at hp2
    have := sx_listcomp2 (c := c.at T ρ) (lss := lines.map (sL a b)) (V := ⟨plM a b (lnL a b lines) oneM [], []⟩) ok R.room.handled hsw (pl_kind R (by decide)) (fun z hz => (hsc z hz).1) (fun z hz => (hsc z hz).2.1) (fun z hz => (hsc z hz).2.2) g12 g10 (by decide) g11 (by decide) hit (fun x => (pl_fold w _ x).1) hp2 (by rw [flat_sL, List.length_map]; omega)
    rw [flat_sL] at this
    exact this
  refine exg_cons (hcomp.g ok rfl) fun T ρ ok => ?_
  rw [g6, g7]
  have gk2 := pl_gk R ok
  have F1 := loop1 (c := c.at T ρ) ⟨ok, R.e, R.room, R.hs⟩ N (lnL a b lines) (sL a b lines.flatten) lines.flatten oneM 0 bm_one (by omega)
  have e1 : lines.flatten.foldl rmul oneM = mat v := by rw [← hm]; exact rm_fold lines.flatten []
  rw [e1] at F1
  refine exg_cons (sxg_for (c := c.at T ρ) ok R.room.handled (pl_kind R (by decide)) (pf_ev ok gk2 (pl_i1 w (tx a) (tx b) (lnL a b lines) (sL a b lines.flatten) 1 0 0 1 []) trivial) (fun x => (pl_fold w _ x).2.1) F1) fun T ρ ok => ?_
  refine exg_cons (V1 := ⟨plM a b (lnL a b lines) (mat v) [("words", .l (sL a b lines.flatten)), ("row", .o 0)], [.list []]⟩) ?_ fun T ρ ok => ?_
  · rw [g8]
    exact sxg_assign (V1 := ⟨plM a b (lnL a b lines) (mat v) [("words", .l (sL a b lines.flatten))], [.list []]⟩) (pl_kind R (by decide)) (evg_list (c := c.at T ρ) (ps := []) (V1 := ⟨plM a b (lnL a b lines) (mat v) [("words", .l (sL a b lines.flatten))], []⟩) ((args_nil (c := c.at T ρ)).g ok rfl) (by decide)) rfl
  have gk3 := pl_gk R ok
  have F2 := loop2 (c := c.at T ρ) ⟨ok, R.e, R.room, R.hs⟩ N (lnL a b lines) (sL a b lines.flatten) (sL a b lines.flatten) v [] (sL_ss a b _) hf (by omega) (by show 0 + _ ≤ _; omega)
  rw [List.length_map, List.drop_eq_nil_of_le hv, List.take_of_length_le hv, List.append_nil] at F2
  refine exg_cons (sxg_for (c := c.at T ρ) ok R.room.handled (pl_kind R (by decide)) (pf_ev ok gk3 (pl_i2 w (tx a) (tx b) (lnL a b lines) (sL a b lines.flatten) (mat v).p (mat v).q (mat v).r (mat v).s [.list []]) trivial) (fun x => (pl_fold w _ x).2.2) F2) fun T ρ ok => ?_
  have gk4 := pl_gk R ok
  exact exg_stop (((sx_ok ok gk4 10).s _ _ _ _ _ _ _ (pl_retx w (tx a) (tx b) (lnL a b lines) (sL a b lines.flatten) (sL a b v.reverse) 1 0 0 1) trivial).g ok rfl) (fun q => nomatch q)
theorem spec_peeled (w : Wn) {a b : List Nat} (N : Names2 a b) (lines : List (List Lt)) (v : List Lt) (hm : mat lines.flatten = mat v) (hf : Free v) (hv : v.length ≤ lines.flatten.length) (hn : lines.flatten.length ≤ 1000) : SpecP (WW w) 3 (.ref 794) [.s (tx a), .s (tx b), .l (lnL a b lines)] (.l (sL a b v)) := by
  have e0 : (.l (sL a b v) : PV) = .l (sL a b v.reverse).reverse := by rw [← List.map_reverse, List.reverse_reverse]
  rw [e0]
  have sk : SpecK (WW w) 3 (.ref 794) [.s (tx a), .s (tx b), .l (lnL a b lines)] [] [] (.o 0) [.list (sL a b v.reverse)] := by
    refine call_defB (fl := .ret (.o 0)) (loc := [("one", .s (tx a)), ("other", .s (tx b)), ("lines", .l (lnL a b lines))]) (defIs_of (pl_def w)) (fun T ρ s vs kvs B hT ia ek ik => ?_) fun c ok e room hs => ⟨⟨plM a b (lnL a b lines) oneM [("words", .l (sL a b lines.flatten)), ("row", .o 0)], [.list (sL a b v.reverse)]⟩, ?_, rfl⟩
    · cases kvs with
      | cons _ _ => cases ek
      | nil =>
        cases ia with
        | cons i1 ia => cases ia with
          | cons i2 ia => cases ia with
            | cons i3 ia =>
              cases ia
              exact bind_al B.k (pl_bind w _ _ _ _ _ _) (pl_nms w) (loc_binds rfl (.cons i1 (.cons i2 (.cons i3 .nil))) (nodupB_ok (l := ["one", "other", "lines"]) (by decide)))
    · rw [show bodyOf (fdOf (WW w).K 794) = _ from pl_shape w]
      exact pl_body ⟨ok, e, room, hs⟩ N lines v hm hf hv hn
  exact spec_freeze sk (by show (true && (true && (PV.ltL 0 (lnL a b lines) && true))) = true; rw [lnL_lt]; rfl) rfl (sL_lt a b 0 _)
end PL5
section DR1
noncomputable abbrev drFd (w : Wn) : FuncData := fdOf (WW w).K 775
noncomputable abbrev drCfg (w : Wn) : Cfg := mkCfg (W := WW w) (D := 2) (drFd w).scope tabs ((POrc.chr _ _).or (blt _ _)) (.none _ _)
structure DrX where
  row : Stmt
  total : Stmt
  one : Stmt
  o : Str
  po : Pos
  ch : Expr
  two : Expr
  p3 : Pos
  p4 : Pos
  l : Str
  pl : Pos
  p5 : Pos
  p6 : Pos
  p7 : Pos
  x : Str
  px : Pos
  it : Expr
  y : Stmt
  t : Expr
  ap : Stmt
  k : Str
  pk : Pos
  rg : Str
  prg : Pos
  arg : Expr
  prc : Pos
  lb : List Stmt
  pf2 : Pos
  pif : Pos
  pf1 : Pos
  ret : Stmt
noncomputable def DrX.other (r : DrX) : Stmt := .Assign [.Name r.o r.po] (.BinOp r.ch .Mult r.two r.p3) r.p4
noncomputable def DrX.lines (r : DrX) : Stmt := .Assign [.Name r.l r.pl] (.List [.List [] r.p5] r.p6) r.p7
noncomputable def DrX.inner (r : DrX) : Stmt := .For (.Name r.k r.pk) (.Call (.Name r.rg r.prg) [r.arg] [] r.prc) r.lb [] r.pf2
noncomputable def DrX.body (r : DrX) : List Stmt := [r.y, .If r.t [r.ap] [r.inner] r.pif]
noncomputable def DrX.all (r : DrX) : List Stmt := [r.row, r.total, r.one, r.other, r.lines, .For (.Name r.x r.px) r.it r.body [] r.pf1, r.ret]
set_option backward.match.sparseCases false in
noncomputable def drX : List Stmt → Option DrX
  | [row, total, one, .Assign [.Name o po] (.BinOp ch _ two p3) p4, .Assign [.Name l pl] (.List [.List _ p5] p6) p7, .For (.Name x px) it [y, .If t [ap] [.For (.Name k pk) (.Call (.Name rg prg) [arg] _ prc) lb _ pf2] pif] _ pf1, ret] => some ⟨row, total, one, o, po, ch, two, p3, p4, l, pl, p5, p6, p7, x, px, it, y, t, ap, k, pk, rg, prg, arg, prc, lb, pf2, pif, pf1, ret⟩
  | _ => none
theorem dr_some (w : Wn) : (drX (bodyOf (drFd w))).isSome = true := by kernel_rfl
noncomputable def drG (w : Wn) : DrX := (drX (bodyOf (drFd w))).get (dr_some w)
theorem dr_shape (w : Wn) : bodyOf (drFd w) = (drG w).all := by kernel_rfl
noncomputable def DrX.good (r : DrX) : Bool := r.o == ("other" : Str) && r.l == ("lines" : Str) && r.x == ("x" : Str) && r.k == ("k" : Str)
theorem dr_good (w : Wn) : (drG w).good = true := by kernel_rfl
theorem dr_names (w : Wn) : (["script", "row", "total", "one", "other", "lines", "x", "y", "k"] : List Str).all (fun x => (drFd w).scope.names.lookup x == some .local) = true := by kernel_rfl
noncomputable abbrev hd8 : List PV := [.i 5, .i 2, .i 4, .i 3, .i 1, .i 7, .i 4, .i 3]
noncomputable abbrev lnI (xs : List PV) : Int := (xs.length : Int)
theorem d_row (w : Wn) (S : List PV) : sx (drCfg w) 60 (drG w).row [] ⟨[("script", .l S)], []⟩ = some (.next, [], ⟨[("script", .l S), ("row", .l (hd8 ++ S.take 8))], []⟩, [(0 : Int) ≤ 8, Ln S, Ln hd8, Ln (S.take 8)]) := by kernel_rfl
theorem keep_sum (w : Wn) : keepOk (WW w).K (.builtin "sum") = true := by kernel_rfl
theorem d_total (w : Wn) (S row : List PV) (n : Int) (h : Spec (WW w) 2 (.builtin "sum") [.l row] [] (.i n) []) : sx (mkCfg (drFd w).scope tabs (POrc.one (keep_sum w) h) (.none _ _)) 60 (drG w).total [] ⟨[("script", .l S), ("row", .l row)], []⟩ = some (.next, [], ⟨[("script", .l S), ("row", .l row), ("total", .i n)], []⟩, [Rf ([PV.l row], ([] : List PO))]) := by kernel_rfl
noncomputable abbrev on8 : List PV := [.s "a", .s "it's", .s "", .s "b c", .s "#", .s "\\", .s "\"", .s "x\ny"]
theorem d_one (w : Wn) (S row : List PV) (n : Int) : sx (drCfg w) 60 (drG w).one [] ⟨[("script", .l S), ("row", .l row), ("total", .i n)], []⟩ = some (.next, [], ⟨[("script", .l S), ("row", .l row), ("total", .i n), ("one", on8.getD (n.fmod 8).toNat (.v .none))], []⟩, [(8 : Int) ≠ 0, 0 ≤ n.fmod 8, n.fmod 8 < lnI on8, Ln on8]) := by kernel_rfl
noncomputable abbrev chN (n : Int) : Int := 46 + (n.fdiv 8).fmod 55250
theorem d_ch (w : Wn) (S row : List PV) (n : Int) (one : PV) : pe (drCfg w) 60 (drG w).ch ⟨[("script", .l S), ("row", .l row), ("total", .i n), ("one", one)], []⟩ = some (.s ⟨#[(chN n).toNat]⟩, [(8 : Int) ≠ 0, Int.natAbs 8 < 1073741824, (55250 : Int) ≠ 0, 0 ≤ chN n, chN n ≤ 1114111]) := by kernel_rfl
theorem d_two (w : Wn) (S row : List PV) (n : Int) (one : PV) : pe (drCfg w) 60 (drG w).two ⟨[("script", .l S), ("row", .l row), ("total", .i n), ("one", one)], []⟩ = some (.i 2, []) := by kernel_rfl
noncomputable abbrev drL (S row : List PV) (n : Int) (one oth : Str) (ex : List (Str × PV)) : List (Str × PV) := ("script", .l S) :: ("row", .l row) :: ("total", .i n) :: ("one", .s one) :: ("other", .s oth) :: ("lines", .o 1) :: ex
theorem d_it (w : Wn) (S row : List PV) (n : Int) (one oth : Str) (os : List PO) : pf (drCfg w) 10 (drG w).it ⟨drL S row n one oth [], os⟩ = some (.l row, os, []) := by kernel_rfl
theorem d_y (w : Wn) (S row : List PV) (n x : Int) (one oth : Str) (os : List PO) : sx (drCfg w) 60 (drG w).y [] ⟨drL S row n one oth [("x", .i x)], os⟩ = some (.next, [], ⟨drL S row n one oth [("x", .i x), ("y", .i (x.fmod 5))], os⟩, [(5 : Int) ≠ 0]) := by kernel_rfl
theorem d_t (w : Wn) (S row : List PV) (n x y : Int) (one oth : Str) (os : List PO) : pt (drCfg w) 60 (drG w).t ⟨drL S row n one oth [("x", .i x), ("y", .i y)], os⟩ = some (y == 4, []) := by kernel_rfl
theorem d_arg (w : Wn) (S row : List PV) (n x y : Int) (one oth : Str) (os : List PO) : pe (drCfg w) 60 (drG w).arg ⟨drL S row n one oth [("x", .i x), ("y", .i y)], os⟩ = some (.i (1 + (x.fdiv 5).fmod 2), [(5 : Int) ≠ 0, Int.natAbs 5 < 1073741824, (2 : Int) ≠ 0]) := by kernel_rfl
theorem d_rg (w : Wn) (S row : List PV) (n x y : Int) (one oth : Str) (os : List PO) : pe (drCfg w) 60 (.Name (drG w).rg (drG w).prg) ⟨drL S row n one oth [("x", .i x), ("y", .i y)], os⟩ = some (.v (.type "range"), []) := by kernel_rfl
noncomputable abbrev ltS (y : Int) (one oth : Str) : Str := (if (y.fmod 2 == 1) = true then ("-" : Str) else ("" : Str)) ++ (if decide (y < 2) = true then one else oth)
theorem d_lb (w : Wn) (S row X D : List PV) (n x y k : Int) (one oth : Str) : xs (drCfg w) 60 (drG w).lb [] ⟨drL S row n one oth [("x", .i x), ("y", .i y), ("k", .i k)], [.list X, .list (.o 0 :: D)]⟩ = some (.next, [], ⟨drL S row n one oth [("x", .i x), ("y", .i y), ("k", .i k)], [.list (.s (ltS y one oth) :: X), .list (.o 0 :: D)]⟩,
  [(-1 : Int) < 0, -(-1 : Int) ≤ lnI (.o 0 :: D), Ln (.o 0 :: D), (2 : Int) ≠ 0, (y.fmod 2 == 1) = true → AllP [], (y.fmod 2 == 1) = false → AllP [], decide (y < 2) = true → AllP [], decide (y < 2) = false → AllP [], (ltS y one oth).length ≤ sizeLine, Ln X]) := by kernel_rfl
theorem d_ret (w : Wn) (S row X D : List PV) (n : Int) (one oth : Str) : sx (drCfg w) 60 (drG w).ret [] ⟨drL S row n one oth [], [.list X, .list (.o 0 :: D)]⟩ = some (.ret (.t [.s one, .s oth, .o 1]), [], ⟨drL S row n one oth [], [.list X, .list (.o 0 :: D)]⟩, []) := by kernel_rfl
theorem dr_fold (w : Wn) (env : Env) (x : Value) : foldedSetIterable (drG w).it env x = pure x ∧ foldedSetIterable (.Call (.Name (drG w).rg (drG w).prg) [(drG w).arg] [] (drG w).prc) env x = pure x := by refine ⟨?_, ?_⟩ <;> kernel_rfl
theorem dr_star (w : Wn) : noStar (drG w).arg = true := by kernel_rfl
theorem dr_def (w : Wn) : (isDef (WW w).K 775 (drFd w) && hasBody (drFd w)) = true := by kernel_rfl
theorem dr_bind (w : Wn) (a : Value) (S : Setting) (sz tk : Nat) : (runAl (WW w).K S 200 sz tk (bindArgs (drFd w) ⟨[a], []⟩)).map (·.1) = some ([("script", a)] : List (Str × Value)) := by kernel_rfl
theorem dr_nms (w : Wn) : (["script"] : List Str).all (fun x => (drFd w).scope.names.lookup x == some .local) = true := by kernel_rfl
end DR1
section DR2
section
variable {c : Fc} {s0 s : Shared} {T : List Addr} {ρ : List (Addr × Addr)}
theorem ltL_iff (n : Nat) : ∀ l : List PV, PV.ltL n l = true ↔ ∀ p ∈ l, p.lt n = true := by
  intro l
  induction l with
  | nil => simp [PV.ltL]
  | cons a r ih => show (a.lt n && PV.ltL n r) = true ↔ _; rw [Bool.and_eq_true, ih]; simp
theorem ltL_rev {n : Nat} {l : List PV} (h : PV.ltL n l = true) : PV.ltL n l.reverse = true := by
  rw [ltL_iff] at h ⊢
  exact fun p hp => h p (List.mem_reverse.mp hp)
theorem Is.anew {T T' : List Addr} {ρ ρ' : List (Addr × Addr)} {h : Heap} {p : PV} {v : Value} (sub : ∀ y ∈ T', y ∈ T) (hp : p.lt 0 = true) (i : Is T ρ h p v) : Is T' ρ' h p v :=
  Is.grow (T := T') (T' := T') (ρ := []) (ν := ρ') (fun b hb => .inl hb) (Is.back (T := T') (T' := T) (ρ := []) (ν := ρ) sub i hp)
theorem IsL.anew {T T' : List Addr} {ρ ρ' : List (Addr × Addr)} {h : Heap} {ps : List PV} {vs : List Value} (sub : ∀ y ∈ T', y ∈ T) (hp : PV.ltL 0 ps = true) (i : IsL T ρ h ps vs) : IsL T' ρ' h ps vs :=
  IsL.grow (T := T') (T' := T') (ρ := []) (ν := ρ') (fun b hb => .inl hb) (IsL.back (T := T') (T' := T) (ρ := []) (ν := ρ) sub i hp)
theorem three {α : Type} {l : List α} (h : l.length = 3) : ∃ a b c, l = [a, b, c] := by
  cases l with
  | nil => cases h
  | cons a l => cases l with
    | nil => cases h
    | cons b l => cases l with
      | nil => cases h
      | cons c l => cases l with
        | nil => exact ⟨a, b, c, rfl⟩
        | cons => cases h
theorem ok_renum {A0 A1 A2 : Addr} (ok : (c.at T [(A0, A0), (A1, A1), (A2, A2)]).Ok) : (c.at (T.filter (· != A0)) [(A2, A2), (A1, A1)]).Ok ∧ c.L ≠ A0 := by
  have nd : ([c.L, A0, A1, A2] : List Addr).Nodup := ok.fx.nodup
  have mem : ∀ b ∈ ([c.L, A0, A1, A2] : List Addr), b ∈ T := ok.fx.mem
  obtain ⟨n1, nd⟩ := List.nodup_cons.mp nd
  obtain ⟨n2, nd⟩ := List.nodup_cons.mp nd
  obtain ⟨n3, _⟩ := List.nodup_cons.mp nd
  have nL : c.L ≠ A0 := fun q => n1 (q ▸ .head _)
  have mT : ∀ y ∈ T, y ≠ A0 → y ∈ T.filter (· != A0) := fun y h q => List.mem_filter.mpr ⟨h, bne_iff_ne.mpr q⟩
  have m : ∀ y ∈ ([c.L, A2, A1] : List Addr), y ∈ T.filter (· != A0) := fun y hy => by
    rcases List.mem_cons.mp hy with rfl | hy
    · exact mT _ (mem _ (.head _)) nL
    · rcases List.mem_cons.mp hy with rfl | hy
      · exact mT _ (mem _ (.tail _ (.tail _ (.tail _ (.head _))))) fun q => n2 (q ▸ .tail _ (.head _))
      · rcases List.mem_singleton.mp hy with rfl
        exact mT _ (mem _ (.tail _ (.tail _ (.head _)))) fun q => n2 (q ▸ .head _)
  have n : ([c.L, A2, A1] : List Addr).Nodup := by
    refine List.nodup_cons.mpr ⟨fun q => ?_, List.nodup_cons.mpr ⟨fun q => n3 (List.mem_singleton.mp q ▸ .head _), List.nodup_cons.mpr ⟨(fun q => nomatch q), List.nodup_nil⟩⟩⟩
    rcases List.mem_cons.mp q with q | q
    · exact n1 (q ▸ .tail _ (.tail _ (.head _)))
    · exact n1 (List.mem_singleton.mp q ▸ .tail _ (.head _))
  exact ⟨⟨⟨m, n, fun y hy => ok.fx.low y (List.mem_filter.mp hy).1⟩, ok.kind, ok.loc, ok.glb, ok.blt, ok.lowK, ok.lo⟩, nL⟩
noncomputable def LsAt (T : List Addr) (ρ : List (Addr × Addr)) (h : Heap) (A : Addr) (xs : List PV) : Prop := ∃ vs n, h.get? A = some ⟨.type "list", none, .seq vs n, #[]⟩ ∧ IsL T ρ h xs vs.toList.reverse
theorem ls_at {T : List Addr} {ρ : List (Addr × Addr)} {h : Heap} {k : Nat} {xs : List PV} (x : ObjAt T ρ h k (.list xs)) : ∃ A, ρ[k]? = some (A, A) ∧ LsAt T ρ h A xs :=
  let ⟨A, vs, n, e, g, i⟩ := x; ⟨A, e, vs, n, g, i⟩
theorem lists3 {T : List Addr} {ρ : List (Addr × Addr)} {h : Heap} {X L Y : List PV} (O : ObjsOk T ρ [.list X, .list L, .list Y] h) (len : ρ.length = 3) : ∃ A0 A1 A2, ρ = [(A0, A0), (A1, A1), (A2, A2)] ∧ LsAt T ρ h A0 X ∧ LsAt T ρ h A1 L ∧ LsAt T ρ h A2 Y := by
  obtain ⟨A0, e0, l0⟩ := ls_at (O 0 _ rfl)
  obtain ⟨A1, e1, l1⟩ := ls_at (O 1 _ rfl)
  obtain ⟨A2, e2, l2⟩ := ls_at (O 2 _ rfl)
  refine ⟨A0, A1, A2, ?_, l0, l1, l2⟩
  obtain ⟨p0, p1, p2, e⟩ := three len
  rw [e] at e0 e1 e2 ⊢
  rw [Option.some.inj (show some p0 = _ from e0), Option.some.inj (show some p1 = _ from e1), Option.some.inj (show some p2 = _ from e2)]
theorem IsL.uncons {T : List Addr} {ρ : List (Addr × Addr)} {h : Heap} {p : PV} {ps : List PV} {vs : List Value} (i : IsL T ρ h (p :: ps) vs) : ∃ v r, vs = v :: r ∧ Is T ρ h p v ∧ IsL T ρ h ps r := by
  cases i with | cons a b => exact ⟨_, _, rfl, a, b⟩
section
variable {T' : List Addr} {h : Heap} {X D Y : List PV} {A0 A1 A2 : Addr}
theorem renum_objs (nT : A0 ∉ T') (sub : ∀ y ∈ T', y ∈ T) (hX : PV.ltL 0 X = true) (hD : PV.ltL 0 D = true) (hY : PV.ltL 0 Y = true) (l0 : LsAt T [(A0, A0), (A1, A1), (A2, A2)] h A0 X) (l1 : LsAt T [(A0, A0), (A1, A1), (A2, A2)] h A1 (.o 2 :: .o 0 :: D)) (l2 : LsAt T [(A0, A0), (A1, A1), (A2, A2)] h A2 Y) : ObjsOk T' [(A2, A2), (A1, A1)] [.list Y, .list (.o 0 :: .l X.reverse :: D)] h := by
  obtain ⟨vs0, n0, g0, i0⟩ := l0
  obtain ⟨vs1, n1, g1, i1⟩ := l1
  obtain ⟨vs2, n2, g2, i2⟩ := l2
  have i1' : IsL T' [(A2, A2), (A1, A1)] h (.o 0 :: .l X.reverse :: D) vs1.toList.reverse := by
    obtain ⟨v2, r, e1, j2, i1⟩ := i1.uncons
    obtain ⟨v0, r', e2, j0, jd⟩ := i1.uncons
    obtain ⟨a2, m2, rfl, h2⟩ := j2.io
    obtain ⟨a0, m0, rfl, h0⟩ := j0.io
    rw [e1, e2]
    cases (show some (A2, A2) = _ from h2)
    cases (show some (A0, A0) = _ from h0)
    have i0' := i0.reverse
    rw [List.reverse_reverse] at i0'
    exact .cons (.o (m := A2) rfl) (.cons (.l nT g0 rfl rfl (i0'.anew sub (ltL_rev hX))) (jd.anew sub hD))
  intro k po e
  cases k with
  | zero => cases e; exact ⟨A2, vs2, n2, rfl, g2, i2.anew sub hY⟩
  | succ k => cases k with
    | zero => cases e; exact ⟨A1, vs1, n1, rfl, g1, i1'⟩
    | succ k => cases e
theorem renum_loc {loc : List (Str × PV)} {m : Str → Option Value} (sub : ∀ y ∈ T', y ∈ T) (hl : ∀ y p, loc.lookup y = some p → p.lt 0 = true ∨ p = .o 1) (lo : LocOk T [(A0, A0), (A1, A1), (A2, A2)] h loc m) : LocOk T' [(A2, A2), (A1, A1)] h loc m := fun y p e => by
  obtain ⟨v, h1, h2⟩ := lo y p e
  refine ⟨v, h1, ?_⟩
  rcases hl y p e with h | rfl
  · exact h2.anew sub h
  · obtain ⟨a, m, rfl, q⟩ := h2.io
    cases (show some (A1, A1) = _ from q)
    exact .o (m := A1) rfl
theorem renum_muts : ∀ y ∈ muts c.L [(A2, A2), (A1, A1)], y ∈ muts c.L [(A0, A0), (A1, A1), (A2, A2)] := fun y (hy : y ∈ ([c.L, A2, A1] : List Addr)) => by
  show y ∈ ([c.L, A0, A1, A2] : List Addr)
  rcases List.mem_cons.mp hy with rfl | hy
  · exact .head _
  · rcases List.mem_cons.mp hy with rfl | hy
    · exact .tail _ (.tail _ (.tail _ (.head _)))
    · rcases List.mem_singleton.mp hy with rfl; exact .tail _ (.tail _ (.head _))
theorem renum_at {loc : List (Str × PV)} (a0 : ∀ b ∈ c.T, ∃ o, s0.heap.get? b = some o) (a : BAt c s0 ⟨loc, [.list X, .list (.o 2 :: .o 0 :: D), .list Y]⟩ T [(A0, A0), (A1, A1), (A2, A2)] s) (hc : c.ρ = []) (hX : PV.ltL 0 X = true) (hD : PV.ltL 0 D = true) (hY : PV.ltL 0 Y = true) (hl : ∀ y p, loc.lookup y = some p → p.lt 0 = true ∨ p = .o 1) (l0 : LsAt T [(A0, A0), (A1, A1), (A2, A2)] s.heap A0 X) (l1 : LsAt T [(A0, A0), (A1, A1), (A2, A2)] s.heap A1 (.o 2 :: .o 0 :: D)) (l2 : LsAt T [(A0, A0), (A1, A1), (A2, A2)] s.heap A2 Y) :
    BAt c s0 ⟨loc, [.list Y, .list (.o 0 :: .l X.reverse :: D)]⟩ (T.filter (· != A0)) [(A2, A2), (A1, A1)] s := by
  have hν : ∀ p ∈ ([(A0, A0), (A1, A1), (A2, A2)] : List (Addr × Addr)), s0.heap.get? p.2 = none := by
    obtain ⟨ν, eν, hν⟩ := a.g.ext
    rw [hc, List.nil_append] at eν
    exact eν ▸ hν
  obtain ⟨ok', nL⟩ := ok_renum a.g.ok
  have sub' : ∀ y ∈ T.filter (· != A0), y ∈ T := fun y h => (List.mem_filter.mp h).1
  have bc : ∀ y ∈ c.T, y ≠ A0 := fun y z q => by obtain ⟨o, e⟩ := a0 _ z; rw [q, hν _ (.head _)] at e; cases e
  have nT : A0 ∉ T.filter (· != A0) := fun z => bne_iff_ne.mp (List.mem_filter.mp z).2 rfl
  refine ⟨⟨ok', fun y hy => List.mem_filter.mpr ⟨a.g.sub y hy, bne_iff_ne.mpr (bc y hy)⟩, fun y hy => a.g.fresh y (sub' y hy), _, by rw [hc]; rfl, fun p hp => ?_⟩, ⟨⟨let ⟨m, frm, lo⟩ := a.inv.rep.ns; ⟨m, frm, renum_loc sub' hl lo⟩, renum_objs nT sub' hX hD hY l0 l1 l2⟩, a.inv.base, fun y hy => a.inv.live y (sub' y hy), a.inv.frs⟩, rfl, a.st⟩
  rcases List.mem_cons.mp hp with rfl | hp
  · exact hν _ (.tail _ (.tail _ (.head _)))
  · rcases List.mem_singleton.mp hp with rfl; exact hν _ (.tail _ (.head _))
end
theorem DAt.renum {It l : Addr} {vs : List Value} {i : Nat} {loc : List (Str × PV)} {X D Y : List PV} (a0 : ∀ b ∈ c.T, ∃ o, s0.heap.get? b = some o) (a : DAt c s0 It l vs i ⟨loc, [.list X, .list (.o 2 :: .o 0 :: D), .list Y]⟩ T ρ s) (hc : c.ρ = []) (hX : PV.ltL 0 X = true) (hD : PV.ltL 0 D = true) (hY : PV.ltL 0 Y = true) (hl : ∀ y p, loc.lookup y = some p → p.lt 0 = true ∨ p = .o 1) :
    ∃ T' ρ', DAt c s0 It l vs i ⟨loc, [.list Y, .list (.o 0 :: .l X.reverse :: D)]⟩ T' ρ' s := by
  obtain ⟨A0, A1, A2, rfl, l0, l1, l2⟩ := lists3 a.inv.rep.objs a.len.symm
  have b := renum_at a0 a.b hc hX hD hY hl l0 l1 l2
  exact ⟨_, _, b.g, List.mem_filter.mpr ⟨a.hT, bne_iff_ne.mpr fun q => a.hm (q ▸ .tail _ (.head _))⟩, fun z => a.hm (renum_muts _ z), b.inv, b.len, b.st, a.it, a.ls, fun z => a.lT (List.mem_filter.mp z).1⟩
end
theorem freezeT_is {T0 T : List Addr} {ρ : List (Addr × Addr)} {h : Heap} {x y : Str} {X L : List PV} {v : Value} (O : ObjsOk T ρ [.list X, .list (.o 0 :: L)] h) (sub : ∀ b ∈ T0, b ∈ T) (no : ∀ p ∈ ρ, p.2 ∉ T0) (hX : PV.ltL 0 X = true) (hL : PV.ltL 0 L = true) (i : Is T ρ h (.t [.s x, .s y, .o 1]) v) : Is T0 [] h (.t [.s x, .s y, .l (L.reverse ++ [.l X.reverse])]) v := by
  obtain ⟨A1, e1, vs1, n1, g1, i1⟩ := ls_at (O 1 _ rfl)
  have iL : Is T0 [] h (.l (L.reverse ++ [.l X.reverse])) (.ref A1) := by
    obtain ⟨v0, r, e, j0, jd⟩ := i1.uncons
    have key : IsL T0 [] h (.l X.reverse :: L) vs1.toList.reverse := by
      rw [e]
      exact .cons (Is.froze j0 (O 0 (.list X) rfl) sub no hX) (jd.anew sub hL)
    have key := key.reverse
    rw [List.reverse_reverse, List.reverse_cons] at key
    exact .l (no _ (List.mem_of_getElem? e1)) g1 rfl rfl key
  obtain ⟨a, ob, us, n, z, il⟩ := i.it
  have hv := z.v
  subst hv
  refine .t (fun q => z.out (sub _ q)) z.at_ z.cls z.data ?_
  obtain ⟨u1, r1, q1, k1, il⟩ := il.uncons
  obtain ⟨u2, r2, q2, k2, il⟩ := il.uncons
  obtain ⟨u3, q3, k3⟩ := isL1 il
  obtain ⟨a3, m3, rfl, e3⟩ := k3.io
  rw [e1] at e3
  cases e3
  rw [q1, q2, q3]
  exact .cons (k1.anew sub rfl) (.cons (k2.anew sub rfl) (.cons iL .nil))
theorem spec_freezeT {W : Wd} {D : Nat} {f : Value} {ps : List PV} {x y : Str} {X L : List PV} (h : SpecK W D f ps [] [] (.t [.s x, .s y, .o 1]) [.list X, .list (.o 0 :: L)]) (hp : PV.ltL 0 ps = true) (hX : PV.ltL 0 X = true) (hL : PV.ltL 0 L = true) : SpecP W D f ps (.t [.s x, .s y, .l (L.reverse ++ [.l X.reverse])]) := by
  rintro objs c ok rfl room s vs Q E B live frs O ia hq
  let c0 : Fc := { c with ρ := [] }
  have ok0 : c0.Ok := ⟨⟨fun b hb => ok.fx.mem b (by rcases List.mem_cons.mp hb with rfl | hb; exact .head _; cases hb), by show [c.L].Nodup; simp, ok.fx.low⟩, ok.kind, ok.loc, ok.glb, ok.blt, ok.lowK, ok.lo⟩
  refine wpAny_call (h c0 ok0 rfl room s vs [] _ B live frs (fun k po e => no e) rfl (ia.anew (fun _ h => h) hp) rfl .nil fun s' v T ρ g l st B' F' live' O' i' => ?_)
  have st0 : St c.N [] s s' := ⟨st.keep, st.gens, st.os⟩
  obtain ⟨ν, eρ, hν⟩ := g.ext
  have eρ : ρ = ν := eρ
  refine hq s' v st0.all B' F' (fun k po e => (O k po e).keep st0.keep (fun _ _ _ z => nomatch z) (fun _ z => nomatch z) st0.keep.all) ?_
  have j := freezeT_is O' g.sub (fun p hp z => by
    obtain ⟨o, e⟩ := live _ z
    rw [hν p (eρ ▸ hp)] at e; exact no e) hX hL i'
  exact Is.grow (T := c.T) (T' := c.T) (ρ := []) (ν := c.ρ) (fun b hb => .inl hb) j
end DR2
section DR3
noncomputable def letD (x : Int) : Lt := (!decide (x.fmod 5 < 2), (x.fmod 5).fmod 2 == 1)
noncomputable def repD (x : Int) : Nat := (1 + (x.fdiv 5).fmod 2).toNat
noncomputable abbrev DSt := List Lt × List (List Lt)
noncomputable def dstep (x : Int) (st : DSt) : DSt := if (x.fmod 5 == 4) = true then ([], st.1.reverse :: st.2) else (List.replicate (repD x) (letD x) ++ st.1, st.2)
noncomputable abbrev dOb (a b : List Nat) (st : DSt) : List PO := [.list (sL a b st.1), .list (.o 0 :: lnL a b st.2)]
structure DSz (n : Nat) (st : DSt) : Prop where
  c : st.1.length ≤ 2 * n
  d : st.2.length ≤ n
theorem fmod_b (x : Int) {m : Int} (h : 0 < m) : 0 ≤ x.fmod m ∧ x.fmod m < m := ⟨Int.fmod_nonneg_of_pos x h, Int.fmod_lt_of_pos x h⟩
theorem rep_b (x : Int) : repD x ≤ 2 ∧ ((repD x : Nat) : Int) = 1 + (x.fdiv 5).fmod 2 := by
  obtain ⟨h1, h2⟩ := fmod_b (x.fdiv 5) (m := 2) (by decide)
  unfold repD
  omega
theorem DSz.step {n : Nat} {st : DSt} (h : DSz n st) (x : Int) : DSz (n + 1) (dstep x st) := by
  have := h.c
  have := h.d
  have := (rep_b x).1
  unfold dstep
  split
  · exact ⟨Nat.zero_le _, by show _ + 1 ≤ _; omega⟩
  · refine ⟨?_, by show st.2.length ≤ _; omega⟩
    show (List.replicate (repD x) (letD x) ++ st.1).length ≤ _
    rw [List.length_append, List.length_replicate]; omega
theorem nil_add (t : List Nat) : ("" : Str) ++ tx t = tx t := by
  rw [tx_nil]
  show (⟨(⟨[]⟩ : Array Nat) ++ ⟨t⟩⟩ : Str) = ⟨⟨t⟩⟩
  simp
theorem lt_is (a b : List Nat) (x : Int) : PV.s (ltS (x.fmod 5) (tx a) (tx b)) = .s (tx (txtL a b (letD x))) := by
  unfold letD ltS
  cases h1 : ((x.fmod 5).fmod 2 == 1) <;> cases h2 : decide (x.fmod 5 < 2)
  · show PV.s (("" : Str) ++ tx b) = .s (tx ([] ++ b)); rw [nil_add]; rfl
  · show PV.s (("" : Str) ++ tx a) = .s (tx ([] ++ a)); rw [nil_add]; rfl
  · show PV.s (("-" : Str) ++ tx b) = .s (tx ([45] ++ b)); rw [tx_min]; rfl
  · show PV.s (("-" : Str) ++ tx a) = .s (tx ([45] ++ a)); rw [tx_min]; rfl
structure DrC (w : Wn) (c : Fc) : Prop where
  ok : c.Ok
  e : c.toWd = WW w
  room : Room c.A.in1 2
  hs : c.env.scope = (drFd w).scope
  nr : c.ρ = []
theorem dr_gk {w : Wn} {c : Fc} (R : DrC w c) {T : List Addr} {ρ : List (Addr × Addr)} (ok : (c.at T ρ).Ok) : CfgOk (c.at T ρ) (drCfg w) := mkCfg_ok (c := c.at T ρ) (t := tabs) ok R.e R.room (by decide) R.hs (tabs_ok w)
theorem dr_kind {w : Wn} {c : Fc} (R : DrC w c) {x : Str} (h : x ∈ (["script", "row", "total", "one", "other", "lines", "x", "y", "k"] : List Str)) : c.env.kindOf x = some .local := by
  unfold Env.kindOf
  rw [R.hs]; exact beq_iff_eq.mp (List.all_eq_true.mp (dr_names w) _ h)
structure ApX where
  y : Str
  py : Pos
  ap : Pos
  pl : Pos
  pc : Pos
  pe : Pos
noncomputable def ApX.st (r : ApX) : Stmt := .Expr (.Call (.Attribute (.Name r.y r.py) "append" r.ap) [.List [] r.pl] [] r.pc) r.pe
set_option backward.match.sparseCases false in
noncomputable def apX : Stmt → Option ApX
  | .Expr (.Call (.Attribute (.Name y py) _ ap) [.List _ pl] _ pc) pe => some ⟨y, py, ap, pl, pc, pe⟩
  | _ => none
theorem ap_some (w : Wn) : (apX (drG w).ap).isSome = true := by kernel_rfl
noncomputable def apG (w : Wn) : ApX := (apX (drG w).ap).get (ap_some w)
theorem ap_shape (w : Wn) : (drG w).ap = (apG w).st := by kernel_rfl
theorem ap_good (w : Wn) : ((apG w).y == ("lines" : Str) && ((apG w).ap.endLine == (apG w).pc.line)) = true := by kernel_rfl
section
variable {w : Wn} {c : Fc} {a b : List Nat} {S row : List PV} {t : Int}
noncomputable abbrev drM (a b : List Nat) (S row : List PV) (t : Int) (ex : List (Str × PV)) : List (Str × PV) := drL S row t (tx a) (tx b) ex
theorem sx_ap (R : DrC w c) {T : List Addr} {ρ : List (Addr × Addr)} (ok : (c.at T ρ).Ok) {x y : Int} {X D : List PV} (hD : Ln (.o 0 :: D)) : SxG (c.at T ρ) (drG w).ap ⟨drM a b S row t [("x", .i x), ("y", .i y)], [.list X, .list (.o 0 :: D)]⟩ .next ⟨drM a b S row t [("x", .i x), ("y", .i y)], [.list X, .list (.o 2 :: .o 0 :: D), .list []]⟩ := by
  obtain ⟨g1, g2⟩ := Bool.and_eq_true_iff.mp (ap_good w)
  rw [ap_shape w]
  have kn : c.env.kindOf ("lines" : Str) = some .local := dr_kind R (by decide)
  have hy : EvOk (c.at T ρ) (.Name (apG w).y (apG w).py) ⟨drM a b S row t [("x", .i x), ("y", .i y)], [.list X, .list (.o 0 :: D)]⟩ (.o 1) ⟨drM a b S row t [("x", .i x), ("y", .i y)], [.list X, .list (.o 0 :: D)]⟩ := ev_local ok (by rw [beq_iff_eq.mp g1]; exact kn) (by rw [beq_iff_eq.mp g1]; decide) (by rw [beq_iff_eq.mp g1]; rfl)
  have nl : ∀ os : List PO, ArgsG (c.at T ρ) [.List [] (apG w).pl] ⟨drM a b S row t [("x", .i x), ("y", .i y)], os⟩ [.o os.length] ⟨drM a b S row t [("x", .i x), ("y", .i y)], os ++ [.list []]⟩ := fun os =>
    argsg_cons (c := c.at T ρ) (evg_list (c := c.at T ρ) (V1 := ⟨drM a b S row t [("x", .i x), ("y", .i y)], os⟩) (ps := []) ((args_nil (c := c.at T ρ)).g ok rfl) (by decide)) (fun T' ρ' ok' => (args_nil (c := (c.at T ρ).at T' ρ')).g ok' rfl) rfl
  unfold ApX.st
  exact sxg_expr ok (evg_lmeth (xs0 := .o 0 :: D) (xs := .o 0 :: D) ok base_name hy rfl g2 rfl (by show 1 < 30; decide) (nl _) rfl (show lmP "append" (.o 0 :: D) [.o 2] = some (.v .none, .o 2 :: .o 0 :: D, [Ln (.o 0 :: D)]) from by kernel_rfl) ⟨hD, trivial⟩) rfl
variable {s0 s : Shared} {It l : Addr} {vs : List Value} {i m : Nat} {T : List Addr} {ρ : List (Addr × Addr)} {E : Value → Shared → Prop}
theorem lnL_len (a b : List Nat) (ls : List (List Lt)) : (lnL a b ls).length = ls.length := by rw [List.length_map, List.length_map]
set_option backward.match.sparseCases false in
noncomputable def AllV (P : PV → Prop) : List (Str × PV) → Prop
  | [] => True
  | q :: r => P q.2 ∧ AllV P r
theorem AllV.get {P : PV → Prop} : ∀ {l : List (Str × PV)} {y : Str} {p : PV}, AllV P l → l.lookup y = some p → P p
  | [], y, p, _, e => no e
  | q :: r, y, p, h, e => by
    rw [List.lookup_cons] at e
    split at e
    · cases e; exact h.1
    · exact AllV.get h.2 e
theorem dr_lt {x y : Int} (hS : PV.ltL 0 S = true) (hr : PV.ltL 0 row = true) {z : Str} {p : PV} (e : (drM a b S row t [("x", .i x), ("y", .i y)]).lookup z = some p) : p.lt 0 = true ∨ p = .o 1 :=
  have h : AllV (fun p => p.lt 0 = true ∨ p = .o 1) (drM a b S row t [("x", .i x), ("y", .i y)]) := ⟨.inl hS, .inl hr, .inl rfl, .inl rfl, .inl rfl, .inr rfl, .inl rfl, .inl rfl, trivial⟩
  h.get e
theorem dr_rng (R : DrC w c) (N : Names2 a b) (ok : (c.at T ρ).Ok) {st : DSt} {x : Int} (hz : DSz m st) (hm : m ≤ 1000) : SxOk (c.at T ρ) (drG w).inner ⟨drM a b S row t [("x", .i x), ("y", .i (x.fmod 5))], dOb a b st⟩ .next ⟨drM a b S row t [("x", .i x), ("y", .i (x.fmod 5))], [.list (List.replicate (repD x) (PV.s (tx (txtL a b (letD x)))) ++ sL a b st.1), .list (.o 0 :: lnL a b st.2)]⟩ := by
  have hc := hz.c
  have hd := hz.d
  have lnD : Ln (.o 0 :: lnL a b st.2) := by show _ ≤ 1000000; rw [List.length_cons, lnL_len]; omega
  have g := dr_good w
  unfold DrX.good at g
  simp only [Bool.and_eq_true, beq_iff_eq] at g
  obtain ⟨r1, r2⟩ := rep_b x
  have lx : (ltS (x.fmod 5) (tx a) (tx b)).length ≤ sizeLine := by
    have := lt_is a b x
    injection this with this
    rw [this]; exact tx_small (Nat.le_trans (len_txt N _) (by decide))
  have harg := (pe_ok ok (dr_gk R ok) 60).e _ _ _ (d_arg w S row t x (x.fmod 5) (tx a) (tx b) (dOb a b st)) ⟨by decide, by decide, by decide, trivial⟩
  rw [← r2] at harg
  unfold DrX.inner
  rw [g.2]
  exact sx_for_range (c := c.at T ρ) (N := repD x) (Vs := fun j => ⟨drM a b S row t [("x", .i x), ("y", .i (x.fmod 5))], [.list (List.replicate j (PV.s (tx (txtL a b (letD x)))) ++ sL a b st.1), .list (.o 0 :: lnL a b st.2)]⟩) ok R.room.handled (dr_kind R (by decide)) ((pe_ok ok (dr_gk R ok) 60).e _ _ _ (d_rg w S row t x (x.fmod 5) (tx a) (tx b) (dOb a b st)) trivial) (dr_star w) harg (by omega) (fun y => (dr_fold w _ y).2) rfl fun j hj T' ok' => by
    have run := d_lb w S row (List.replicate j (PV.s (tx (txtL a b (letD x)))) ++ sL a b st.1) (lnL a b st.2) t x (x.fmod 5) j (tx a) (tx b)
    have lnX : Ln (List.replicate j (PV.s (tx (txtL a b (letD x)))) ++ sL a b st.1) := by show _ ≤ 1000000; rw [List.length_append, List.length_replicate, List.length_map]; omega
    have := ExOk.drop (l := drM a b S row t [("x", .i x), ("y", .i (x.fmod 5))]) (r := [("k", .i j)]) ((sx_sound (c := c.at T' ρ) ok' (dr_gk R ok') 60).2 _ _ _ _ _ _ _ run ⟨by decide, by show -(-1 : Int) ≤ ((_ :: _ : List PV).length : Int); rw [List.length_cons]; omega, lnD, by decide, fun _ => trivial, fun _ => trivial, fun _ => trivial, fun _ => trivial, lx, lnX, trivial⟩)
    rw [lt_is] at this
    exact this
theorem dr_turn (R : DrC w c) (N : Names2 a b) (hS : PV.ltL 0 S = true) (hr : PV.ltL 0 row = true) (a0 : ∀ b ∈ c.T, ∃ o, s0.heap.get? b = some o) {st : DSt} {x : Int} (A : DAt c s0 It l vs i ⟨drM a b S row t [("x", .i x)], dOb a b st⟩ T ρ s) (hz : DSz m st) (hm : m ≤ 1000) :
    wpAny c.M c.A (execs (drG w).body c.env) (fun fl s' => fl = .next ∧ ∃ T' ρ', DAt c s0 It l vs i ⟨drM a b S row t [], dOb a b (dstep x st)⟩ T' ρ' s') E s := by
  have lnD : Ln (.o 0 :: lnL a b st.2) := by have := hz.d; show _ ≤ 1000000; rw [List.length_cons, lnL_len]; omega
  unfold DrX.body
  refine d_sx (f := .next) A (((sx_ok A.g.ok (dr_gk R A.g.ok) 60).s _ _ _ _ _ _ _ (d_y w S row t x (tx a) (tx b) (dOb a b st)) ⟨by decide, trivial⟩).g A.g.ok rfl) fun T ρ s1 A1 => ?_
  refine d_if A1 ((pe_ok A1.g.ok (dr_gk R A1.g.ok) 60).t _ _ _ (d_t w S row t x (x.fmod 5) (tx a) (tx b) (dOb a b st)) trivial) fun s2 A2 => ?_
  cases b1 : (x.fmod 5 == 4) with
  | true =>
    rw [if_pos rfl]
    refine d_sx (f := .next) A2 (sx_ap R A2.g.ok lnD) fun T ρ s3 A3 => ?_
    obtain ⟨T', ρ', A4⟩ := A3.renum a0 R.nr (sL_lt a b 0 _) (lnL_lt a b 0 _) rfl fun y p e => dr_lt hS hr e
    refine wpAny_execs_nil ⟨rfl, T', ρ', ?_⟩
    rw [show dstep x st = ([], st.1.reverse :: st.2) from if_pos b1]
    rw [show (sL a b st.1).reverse = sL a b st.1.reverse from List.map_reverse.symm] at A4
    exact DAt.drop (L := drM a b S row t []) (r := [("x", .i x), ("y", .i (x.fmod 5))]) A4
  | false =>
    rw [if_neg (by simp)]
    refine d_sx (f := .next) A2 ((dr_rng R N A2.g.ok hz hm).g A2.g.ok rfl) fun T ρ s3 A3 => wpAny_execs_nil ⟨rfl, T, ρ, ?_⟩
    rw [show dstep x st = (List.replicate (repD x) (letD x) ++ st.1, st.2) from if_neg (by rw [b1]; simp)]
    have e2 : sL a b (List.replicate (repD x) (letD x) ++ st.1) = List.replicate (repD x) (PV.s (tx (txtL a b (letD x)))) ++ sL a b st.1 := by
      unfold sL; rw [List.map_append, List.map_replicate]
    show DAt c s0 It l vs i ⟨drM a b S row t [], [.list (sL a b _), _]⟩ T ρ s3
    rw [e2]
    exact DAt.drop (L := drM a b S row t []) (r := [("x", .i x), ("y", .i (x.fmod 5))]) A3
end
end DR3
section DR4
noncomputable def rowNs (S : List Int) : List Int := [5, 2, 4, 3, 1, 7, 4, 3] ++ S.take 8
noncomputable def onesL : List (List Nat) := [[97], [105, 116, 39, 115], [], [98, 32, 99], [35], [92], [34], [120, 10, 121]]
noncomputable def oneD (t : Int) : List Nat := onesL.getD (t.fmod 8).toNat []
noncomputable def othD (t : Int) : List Nat := [(chN t).toNat, (chN t).toNat]
noncomputable def drawSt (ns : List Int) : DSt := ns.foldl (fun st x => dstep x st) ([], [])
noncomputable def linesD (S : List Int) : List (List Lt) := (drawSt (rowNs S)).2.reverse ++ [(drawSt (rowNs S)).1.reverse]
theorem one_lt (t : Int) : (t.fmod 8).toNat < 8 := by
  obtain ⟨h1, h2⟩ := fmod_b t (m := 8) (by decide)
  omega
theorem oneD_is (t : Int) : on8.getD (t.fmod 8).toNat (.v .none) = .s (tx (oneD t)) := by
  have := one_lt t
  unfold oneD
  generalize (t.fmod 8).toNat = m at this
  match m, this with
  | 0, _ => kernel_rfl
  | 1, _ => kernel_rfl
  | 2, _ => kernel_rfl
  | 3, _ => kernel_rfl
  | 4, _ => kernel_rfl
  | 5, _ => kernel_rfl
  | 6, _ => kernel_rfl
  | 7, _ => kernel_rfl
theorem ch_b (t : Int) : 46 ≤ chN t ∧ chN t ≤ 55295 := by
  obtain ⟨h1, h2⟩ := fmod_b (t.fdiv 8) (m := 55250) (by decide)
  unfold chN
  omega
theorem names_ok (t : Int) : Names2 (oneD t) (othD t) := by
  have h := ch_b t
  have key : (oneD t).head? ≠ some 45 ∧ (oneD t).length ≠ 2 ∧ (oneD t).length ≤ 9 := by
    have := one_lt t
    unfold oneD
    generalize (t.fmod 8).toNat = m at this
    match m, this with
    | 0, _ => decide
    | 1, _ => decide
    | 2, _ => decide
    | 3, _ => decide
    | 4, _ => decide
    | 5, _ => decide
    | 6, _ => decide
    | 7, _ => decide
  refine ⟨key.1, fun q => ?_, fun q => key.2.1 (by rw [q]; rfl), key.2.2, by show 2 ≤ 9; decide⟩
  have q : some (chN t).toNat = some 45 := q
  have := Option.some.inj q
  omega
theorem drawSt_take {ns : List Int} {i : Nat} {n : Int} (h : ns[i]? = some n) : drawSt (ns.take (i + 1)) = dstep n (drawSt (ns.take i)) := by
  obtain ⟨hl, e⟩ := List.getElem?_eq_some_iff.mp h
  unfold drawSt
  rw [List.take_succ_eq_append_getElem hl, List.foldl_append, e]; rfl
theorem drawSt_sz (ns : List Int) : DSz ns.length (drawSt ns) := by
  have key : ∀ (ns : List Int) (st : DSt) (n : Nat), DSz n st → DSz (n + ns.length) (ns.foldl (fun st x => dstep x st) st) := by
    intro ns
    induction ns with
    | nil => intro st n h; exact h
    | cons x r ih =>
      intro st n h
      have := ih (dstep x st) (n + 1) (h.step x)
      rw [List.length_cons, ← Nat.add_assoc, Nat.add_right_comm]; exact this
  have := key ns ([], []) 0 ⟨Nat.zero_le _, Nat.zero_le _⟩
  rwa [Nat.zero_add] at this
theorem rowNs_len (S : List Int) : (rowNs S).length ≤ 16 := by unfold rowNs; simp; omega
theorem rowD_is (S : List Int) : hd8 ++ (iS S).take 8 = iS (rowNs S) := by
  unfold rowNs iS
  rw [List.map_append, List.map_take]; rfl
theorem iS_lt (n : Nat) : ∀ ns : List Int, PV.ltL n (iS ns) = true
  | [] => rfl
  | a :: r => by show (true && PV.ltL n (iS r)) = true; rw [iS_lt n r]; rfl
theorem ev_mul2 {c : Fc} {V : View} {l r : Expr} {pos : Pos} {n : Nat} (ok : c.Ok) (hl : EvOk c l V (.s ⟨#[n]⟩) V) (hr : EvOk c r V (.i 2) V) : EvOk c (.BinOp l .Mult r pos) V (.s (tx [n, n])) V := by
  intro s Q E I h
  refine wpAny_BinOp (hl s _ E I fun s1 v I1 t1 i1 => hr s1 _ E I1 fun s2 u I2 t2 i2 => ?_)
  obtain ⟨t, rfl⟩ := i1.is
  obtain ⟨t', rfl⟩ := i2.ii
  refine P.mul_str (by decide) (fun _ _ => by show ¬ ((1 : Int) > (2 ^ 63 - 1) / 2); decide) (fun _ _ => by show Builtin.Str.tooLong (1 * 2) = false; decide) ?_
  rw [if_neg (by decide), if_neg (by show ¬ ((2 : Int) == 1 || (1 : Nat) == 0) = true; decide)]
  exact ⟨by show 2 ≤ sizeLine; rw [sizeLine_eq]; decide, h _ _ (I2.toks _) ((t1.trans t2).trans (.toks _)) (.s _ _)⟩
theorem dr_body {w : Wn} {c : Fc} {S : List Int} (hS : S.length ≤ 1000000) (R : DrC w c) : ExG c (drG w).all ⟨[("script", .l (iS S))], []⟩ (.ret (.t [.s (tx (oneD (rowNs S).sum)), .s (tx (othD (rowNs S).sum)), .o 1])) ⟨drM (oneD (rowNs S).sum) (othD (rowNs S).sum) (iS S) (iS (rowNs S)) (rowNs S).sum [], [.list (sL (oneD (rowNs S).sum) (othD (rowNs S).sum) (drawSt (rowNs S)).1), .list (.o 0 :: lnL (oneD (rowNs S).sum) (othD (rowNs S).sum) (drawSt (rowNs S)).2)]⟩ := by
  intro s0 Q E I hl k
  have a0 := I.live
  have N := names_ok (rowNs S).sum
  have ht := rowD_is S
  have ho := oneD_is (rowNs S).sum
  have hb := ch_b (rowNs S).sum
  have hoth : tx (othD (rowNs S).sum) = tx [(chN (rowNs S).sum).toNat, (chN (rowNs S).sum).toNat] := rfl
  have fb := fmod_b (rowNs S).sum (m := 8) (by decide)
  have hd := d_one w (iS S) (iS (rowNs S)) (rowNs S).sum
  have hch := d_ch w (iS S) (iS (rowNs S)) (rowNs S).sum (.s (tx (oneD (rowNs S).sum)))
  have htw := d_two w (iS S) (iS (rowNs S)) (rowNs S).sum (.s (tx (oneD (rowNs S).sum)))
  rw [ho] at hd
  have hlen := rowNs_len S
  have hrow := d_row w (iS S)
  rw [ht] at hrow
  have lS : Ln (iS S) := by show _ ≤ 1000000; rw [List.length_map]; exact hS
  have sp : Spec (WW w) 2 (.builtin "sum") [.l (iS (rowNs S))] [] (.i (rowNs S).sum) [] := ((spec_sum (WW w) (rowNs S)).le (by decide)) []
  have htot := d_total w (iS S) (iS (rowNs S)) (rowNs S).sum sp
  have g := dr_good w
  unfold DrX.good at g
  simp only [Bool.and_eq_true, beq_iff_eq] at g
  obtain ⟨⟨⟨g1, g2⟩, g3⟩, g4⟩ := g
  have hret := fun X D => d_ret w (iS S) (iS (rowNs S)) X D (rowNs S).sum (tx (oneD (rowNs S).sum)) (tx (othD (rowNs S).sum))
  have hit := fun os => d_it w (iS S) (iS (rowNs S)) (rowNs S).sum (tx (oneD (rowNs S).sum)) (tx (othD (rowNs S).sum)) os
  have hturn := fun {It l : Addr} {vs : List Value} {i : Nat} {T : List Addr} {ρ : List (Addr × Addr)} {s : Shared} {E : Value → Shared → Prop} {st : DSt} {x : Int} {m : Nat} (A : DAt c s0 It l vs i ⟨drM (oneD (rowNs S).sum) (othD (rowNs S).sum) (iS S) (iS (rowNs S)) (rowNs S).sum [("x", .i x)], dOb (oneD (rowNs S).sum) (othD (rowNs S).sum) st⟩ T ρ s) (hz : DSz m st) (hm : m ≤ 1000) => dr_turn (E := E) R N (iS_lt 0 S) (iS_lt 0 (rowNs S)) a0 A hz hm
  clear ho hoth
  generalize oneD (rowNs S).sum = a at *
  rw [show othD (rowNs S).sum = [(chN (rowNs S).sum).toNat, (chN (rowNs S).sum).toNat] from rfl] at *
  generalize hbb : ([(chN (rowNs S).sum).toNat, (chN (rowNs S).sum).toNat] : List Nat) = b at *
  generalize hts : (rowNs S).sum = t at *
  have gk : ∀ T ρ, (c.at T ρ).Ok → CfgOk (c.at T ρ) (drCfg w) := fun T ρ ok => dr_gk R ok
  have gks : ∀ T ρ, (c.at T ρ).Ok → CfgOk (c.at T ρ) (mkCfg (drFd w).scope tabs (POrc.one (keep_sum w) sp) (.none _ _)) := fun T ρ ok => mkCfg_ok (c := c.at T ρ) (t := tabs) (po := POrc.one (keep_sum w) sp) (eo := .none _ _) ok R.e R.room (by decide) R.hs (tabs_ok w)
  have kd : ∀ x ∈ (["script", "row", "total", "one", "other", "lines", "x", "y", "k"] : List Str), c.env.kindOf x = some .local := fun x hx => dr_kind R hx
  have fo := fun env x => (dr_fold w env x).1
  have okc := R.ok
  have hh := R.room.handled
  clear R
  generalize drCfg w = gc at *
  generalize mkCfg (drFd w).scope tabs (POrc.one (keep_sum w) sp) (.none _ _) = gc2 at *
  generalize drG w = G at *
  unfold DrX.all
  refine b_sx (c := c) ⟨.refl okc, I, hl, .refl s0⟩ (((sx_ok okc (gk _ _ okc) 60).s _ _ _ _ _ _ _ hrow ⟨by decide, lS, by show 8 ≤ 1000000; decide, by show _ ≤ 1000000; rw [List.length_take]; omega, trivial⟩).g okc rfl) fun T ρ s1 b1 => ?_
  refine b_sx b1 (((sx_ok b1.g.ok (gks _ _ b1.g.ok) 60).s _ _ _ _ _ _ _ htot ⟨rfl, trivial⟩).g b1.g.ok rfl) fun T ρ s2 b2 => ?_
  refine b_sx b2 (((sx_ok b2.g.ok (gk _ _ b2.g.ok) 60).s _ _ _ _ _ _ _ hd ⟨by decide, fb.1, fb.2, by show 8 ≤ 1000000; decide, trivial⟩).g b2.g.ok rfl) fun T ρ s3 b3 => ?_
  have hoth : SxOk (c.at T ρ) G.other ⟨[("script", .l (iS S)), ("row", .l (iS (rowNs S))), ("total", .i t), ("one", .s (tx a))], []⟩ .next ⟨[("script", .l (iS S)), ("row", .l (iS (rowNs S))), ("total", .i t), ("one", .s (tx a)), ("other", .s (tx b))], []⟩ := by
    unfold DrX.other
    rw [g1, ← hbb]
    exact sx_assign b3.g.ok (kd _ (by decide)) (ev_mul2 b3.g.ok ((pe_ok b3.g.ok (gk _ _ b3.g.ok) 60).e _ _ _ hch ⟨by decide, by decide, by decide, by omega, by omega, trivial⟩) ((pe_ok b3.g.ok (gk _ _ b3.g.ok) 60).e _ _ _ htw trivial)) rfl
  refine b_sx b3 (hoth.g b3.g.ok rfl) fun T ρ s4 b4 => ?_
  have hlin : SxG (c.at T ρ) G.lines ⟨[("script", .l (iS S)), ("row", .l (iS (rowNs S))), ("total", .i t), ("one", .s (tx a)), ("other", .s (tx b))], []⟩ .next ⟨drM a b (iS S) (iS (rowNs S)) t [], dOb a b ([], [])⟩ := by
    unfold DrX.lines
    rw [g2]
    refine sxg_assign (c := c.at T ρ) (V1 := ⟨[("script", .l (iS S)), ("row", .l (iS (rowNs S))), ("total", .i t), ("one", .s (tx a)), ("other", .s (tx b))], [.list [], .list [.o 0]]⟩) (p := .o 1) (kd _ (by decide)) ?_ rfl
    refine evg_list (c := c.at T ρ) (ps := [.o 0]) (V1 := ⟨[("script", .l (iS S)), ("row", .l (iS (rowNs S))), ("total", .i t), ("one", .s (tx a)), ("other", .s (tx b))], [.list []]⟩) ?_ (by show 1 ≤ 1000; decide)
    exact argsg_cons (c := c.at T ρ) (evg_list (c := c.at T ρ) (V1 := ⟨[("script", .l (iS S)), ("row", .l (iS (rowNs S))), ("total", .i t), ("one", .s (tx a)), ("other", .s (tx b))], []⟩) (ps := []) ((args_nil (c := c.at T ρ)).g b4.g.ok rfl) (by decide)) (fun T' ρ' ok' => (args_nil (c := (c.at T ρ).at T' ρ')).g ok' rfl) rfl
  refine b_sx b4 hlin fun T ρ s5 b5 => ?_
  refine wpAny_execs_cons ?_
  rw [g3]
  refine for_listD (fun i V => V = ⟨drM a b (iS S) (iS (rowNs S)) t [], dOb a b (drawSt ((rowNs S).take i))⟩) hh (kd _ (by decide)) b5 (pf_ev b5.g.ok (gk _ _ b5.g.ok) (hit _) trivial) (fun x => fo _ x) (fun It l vs i n V T ρ s E hn hV A => ?_) ?_ fun V T ρ s6 hV b6 => ?_
  · subst hV
    refine wpAny_mono (hturn (m := ((rowNs S).take i).length) (x := n) A (drawSt_sz _) (by rw [List.length_take]; omega)) (fun fl s' h => ?_) fun _ _ e => e
    obtain ⟨rfl, T', ρ', A'⟩ := h
    exact ⟨rfl, _, T', ρ', by rw [drawSt_take hn], A'⟩
  · rw [List.take_zero]; rfl
  · subst hV
    rw [List.take_length] at b6
    refine wpAny_execs_cons ((sx_ok b6.g.ok (gk _ _ b6.g.ok) 60).s _ _ _ _ _ _ _ (hret _ _) trivial s6 _ E b6.inv fun s7 fl I7 t7 hf => ?_)
    have b7 := b6.go (.refl b6.g.ok) b6.len I7 t7
    have hf' := hf
    obtain ⟨v, rfl, iv⟩ := hf
    exact k s7 _ T ρ b7.g b7.len b7.inv b7.st ⟨v, rfl, iv⟩
end DR4
section DR5
theorem exg_len {c : Fc} {b : List Stmt} {loc : List (Str × PV)} {f : PF} {V' : View} (h : c.ρ = [] → ExG c b ⟨loc, []⟩ f V') : ExG c b ⟨loc, []⟩ f V' := fun s Q E I hl k => h (List.length_eq_zero_iff.mp hl.symm) s Q E I hl k
theorem dr_specK (w : Wn) (S : List Int) {one oth : Str} {X L : List PV} {loc : List (Str × PV)} (hb : ∀ c : Fc, DrC w c → ExG c (drG w).all ⟨[("script", .l (iS S))], []⟩ (.ret (.t [.s one, .s oth, .o 1])) ⟨loc, [.list X, .list (.o 0 :: L)]⟩) : SpecK (WW w) 3 (.ref 775) [.l (iS S)] [] [] (.t [.s one, .s oth, .o 1]) [.list X, .list (.o 0 :: L)] := by
  refine call_defB (fl := .ret (.t [.s one, .s oth, .o 1])) (loc := [("script", .l (iS S))]) (defIs_of (dr_def w)) (fun T ρ s vs kvs B hT ia ek ik => ?_) fun c ok e room hs => ⟨⟨loc, [.list X, .list (.o 0 :: L)]⟩, ?_, rfl⟩
  · cases kvs with
    | cons _ _ => cases ek
    | nil =>
      obtain ⟨v, rfl, i⟩ := isL1 ia
      exact bind_al B.k (dr_bind w _ _ _ _) (dr_nms w) (loc_binds rfl (.cons i .nil) (nodupB_ok (l := ["script"]) (by decide)))
  · rw [show bodyOf (fdOf (WW w).K 775) = _ from dr_shape w]
    have R : c.ρ = [] → DrC w c := fun nr => ⟨ok, e, room, hs, nr⟩
    clear hs room e
    generalize (drG w).all = bb at *
    exact exg_len fun nr => hb c (R nr)
theorem spec_drawn (w : Wn) (S : List Int) (hS : S.length ≤ 1000000) : SpecP (WW w) 3 (.ref 775) [.l (iS S)] (.t [.s (tx (oneD (rowNs S).sum)), .s (tx (othD (rowNs S).sum)), .l (lnL (oneD (rowNs S).sum) (othD (rowNs S).sum) (linesD S))]) := by
  have e0 : lnL (oneD (rowNs S).sum) (othD (rowNs S).sum) (linesD S) = (lnL (oneD (rowNs S).sum) (othD (rowNs S).sum) (drawSt (rowNs S)).2).reverse ++ [.l (sL (oneD (rowNs S).sum) (othD (rowNs S).sum) (drawSt (rowNs S)).1).reverse] := by
    unfold linesD lnL
    rw [List.map_append, List.map_append, List.map_reverse, List.map_reverse]
    show _ ++ [PV.l (sL _ _ _)] = _
    rw [show sL (oneD (rowNs S).sum) (othD (rowNs S).sum) (drawSt (rowNs S)).1.reverse = _ from List.map_reverse]
  rw [e0]
  have hb := fun c (R : DrC w c) => dr_body hS R
  have h2 := sL_lt (oneD (rowNs S).sum) (othD (rowNs S).sum) 0 (drawSt (rowNs S)).1
  have h3 := lnL_lt (oneD (rowNs S).sum) (othD (rowNs S).sum) 0 (drawSt (rowNs S)).2
  generalize sL (oneD (rowNs S).sum) (othD (rowNs S).sum) (drawSt (rowNs S)).1 = X at *
  generalize lnL (oneD (rowNs S).sum) (othD (rowNs S).sum) (drawSt (rowNs S)).2 = L at *
  have sk := dr_specK w S hb
  exact spec_freezeT sk (by show (PV.ltL 0 (iS S) && true) = true; rw [iS_lt]; rfl) h2 h3
end DR5
section PW1
noncomputable abbrev tW (a b : List Nat) (w : List Lt) : List (List Nat) := w.map (txtL a b)
noncomputable abbrev act (w : List Lt) (m : Mt) : Mt := w.foldr lmul m
theorem act_comm1 (y : Lt) (m : Mt) : ∀ w : List Lt, act w (rmul m y) = rmul (act w m) y
  | [] => rfl
  | x :: w => by
    show lmul x (act w (rmul m y)) = rmul (lmul x (act w m)) y
    rw [act_comm1 y m w, lr_comm]
theorem act_comm (w : List Lt) : ∀ (l : List Lt) (m : Mt), act w (l.foldl rmul m) = l.foldl rmul (act w m)
  | [], m => rfl
  | y :: l, m => by
    show act w (l.foldl rmul (rmul m y)) = l.foldl rmul (rmul (act w m) y)
    rw [act_comm w l, act_comm1]
theorem mat_fold (l : List Lt) : l.foldl rmul oneM = mat l := rm_fold l []
theorem act_mat (w l : List Lt) : act w (mat l) = l.foldl rmul (mat w) := by rw [← mat_fold l, act_comm]; rfl
noncomputable abbrev red (l : List Lt) : List Lt := l.foldr stepL []
theorem mat_red (l : List Lt) : mat (red l) = mat l := mat_steps [] l
theorem free_red (l : List Lt) : Free (red l) := free_steps (v := []) trivial l
noncomputable abbrev leftL (a : List Lt) (ls : List (List Lt)) : List Lt := ls.foldl (fun acc l => acc.foldr stepL l) a
noncomputable abbrev rightL (ls : List (List Lt)) : List Lt := ls.foldr (fun l acc => l.foldr stepL acc) []
theorem left_ok : ∀ (ls : List (List Lt)) (a u : List Lt), Free a → mat a = mat u → Free (leftL a (ls.map red)) ∧ mat (leftL a (ls.map red)) = mat (u ++ ls.flatten)
  | [], a, u, hf, hm => ⟨hf, by rw [List.flatten_nil, List.append_nil]; exact hm⟩
  | l :: ls, a, u, hf, hm => by
    have h1 : mat (a.foldr stepL (red l)) = mat (u ++ l) := by
      rw [mat_steps, mat_red]
      show act a (mat l) = _
      rw [act_mat, hm, rm_fold]
    have ih := left_ok ls (a.foldr stepL (red l)) (u ++ l) (free_steps (free_red l) a) h1
    rw [List.flatten_cons, ← List.append_assoc]
    exact ih
theorem right_ok : ∀ ls : List (List Lt), Free (rightL (ls.map red)) ∧ mat (rightL (ls.map red)) = mat ls.flatten
  | [] => ⟨trivial, rfl⟩
  | l :: ls => by
    obtain ⟨h1, h2⟩ := right_ok ls
    refine ⟨free_steps h1 (red l), ?_⟩
    show mat ((red l).foldr stepL (rightL (ls.map red))) = mat (l ++ ls.flatten)
    rw [mat_steps, h2]
    show act (red l) (mat ls.flatten) = _
    rw [act_mat, mat_red, rm_fold]
theorem lm_cancel (x : Lt) {m m' : Mt} (h : lmul x m = lmul x m') : m = m' := by
  have key : ∀ m : Mt, lmul (Lt.inv x) (lmul x m) = m := fun m => by
    have := lm_inv (Lt.inv x) m
    rw [show Lt.inv (Lt.inv x) = x from by obtain ⟨l, n⟩ := x; show (l, !!n) = (l, n); rw [Bool.not_not]] at this
    exact this
  rw [← key m, h, key]
theorem kOf_inj {n n' : Bool} (h : kOf n = kOf n') : n = n' := by cases n <;> cases n' <;> first | rfl | (exact absurd h (by decide))
theorem peel_one {x : Lt} {v : List Lt} (h : Free (x :: v)) : nrm (mat (x :: v)).p (mat (x :: v)).q ≠ nrm (mat (x :: v)).r (mat (x :: v)).s := by
  have pe := peeled x v h
  unfold Peeled at pe
  split at pe <;> omega
theorem free_uniq : ∀ (v v' : List Lt), Free v → Free v' → mat v = mat v' → v = v'
  | [], [], _, _, _ => rfl
  | [], x :: v', _, h', hm => absurd (by rw [← hm]; rfl) (peel_one h')
  | x :: v, [], h, _, hm => absurd (by rw [hm]; rfl) (peel_one h)
  | x :: v, x' :: v', h, h', hm => by
    have pe := peeled x v h
    have pe' := peeled x' v' h'
    rw [← hm] at pe'
    have em : mat (x :: v) = lmul x (mat v) := rfl
    have em' : mat (x :: v) = lmul x' (mat v') := hm
    have hx : x = x' := by
      obtain ⟨l, n⟩ := x
      obtain ⟨l', n'⟩ := x'
      have hl : l = l' := by
        cases l <;> cases l' <;> first | rfl | (exfalso; unfold Peeled at pe pe'; simp at pe pe'; omega)
      subst hl
      have hn : n = n' := by
        cases l with
        | false =>
          have k1 : kP (mat ((false, n) :: v)).p (mat ((false, n) :: v)).q (mat ((false, n) :: v)).r (mat ((false, n) :: v)).s = kOf n := kP_is pe.2 rfl rfl
          have k2 : kP (mat ((false, n) :: v)).p (mat ((false, n) :: v)).q (mat ((false, n) :: v)).r (mat ((false, n) :: v)).s = kOf n' := kP_is pe'.2 (by rw [em']; rfl) (by rw [em']; rfl)
          exact kOf_inj (k1.symm.trans k2)
        | true =>
          have k1 : kP (mat ((true, n) :: v)).r (mat ((true, n) :: v)).s (mat ((true, n) :: v)).p (mat ((true, n) :: v)).q = kOf n := kP_is pe.2 rfl rfl
          have k2 : kP (mat ((true, n) :: v)).r (mat ((true, n) :: v)).s (mat ((true, n) :: v)).p (mat ((true, n) :: v)).q = kOf n' := kP_is pe'.2 (by rw [em']; rfl) (by rw [em']; rfl)
          exact kOf_inj (k1.symm.trans k2)
      rw [hn]
    subst hx
    rw [free_uniq v v' h.tail h'.tail (lm_cancel x (em.symm.trans em'))]
theorem step_len (x : Lt) (v : List Lt) : (stepL x v).length ≤ v.length + 1 := by
  cases v with
  | nil => exact Nat.le_refl _
  | cons t r =>
    show (if t = Lt.inv x then r else x :: t :: r).length ≤ _
    split
    · rw [List.length_cons]; omega
    · exact Nat.le_refl _
theorem steps_len (v : List Lt) : ∀ w : List Lt, (w.foldr stepL v).length ≤ w.length + v.length
  | [] => by simp
  | x :: w => by
    have := step_len x (w.foldr stepL v)
    have := steps_len v w
    show (stepL x (w.foldr stepL v)).length ≤ _
    rw [List.length_cons]; omega
theorem red_len (l : List Lt) : (red l).length ≤ l.length := by have := steps_len [] l; simpa using this
theorem left_len : ∀ (ls : List (List Lt)) (a : List Lt), (leftL a (ls.map red)).length ≤ a.length + ls.flatten.length
  | [], a => by simp
  | l :: ls, a => by
    have h1 := left_len ls (a.foldr stepL (red l))
    have h2 := steps_len (red l) a
    have h3 := red_len l
    show (leftL (a.foldr stepL (red l)) (ls.map red)).length ≤ _
    rw [List.flatten_cons, List.length_append]; omega
section
variable {a b : List Nat} (N : Names2 a b)
include N
theorem txt_inj {x y : Lt} (h : txtL a b x = txtL a b y) : x = y := by
  have ca : ∀ t : List Nat, a ≠ 45 :: t := fun t q => N.ha (by rw [q]; rfl)
  have cb : ∀ t : List Nat, b ≠ 45 :: t := fun t q => N.hb (by rw [q]; rfl)
  obtain ⟨l, n⟩ := x
  obtain ⟨l', n'⟩ := y
  cases l <;> cases n <;> cases l' <;> cases n' <;> first
    | rfl
    | exact absurd h (ca _)
    | exact absurd h (cb _)
    | exact absurd h.symm (ca _)
    | exact absurd h.symm (cb _)
    | exact absurd h N.ne
    | exact absurd h.symm N.ne
    | exact absurd (List.cons.inj h).2 N.ne
    | exact absurd (List.cons.inj h).2.symm N.ne
theorem inv_txt (x : Lt) : invW (txtL a b x) = txtL a b (Lt.inv x) := by
  have key : ∀ t : List Nat, t.head? ≠ some 45 → invW t = 45 :: t := fun t ht => by
    cases t with
    | nil => rfl
    | cons c r => exact if_neg fun q => ht (by rw [q]; rfl)
  obtain ⟨l, n⟩ := x
  cases n with
  | true =>
    cases l with
    | false => show (if (45 : Nat) = 45 then a else 45 :: 45 :: a) = a; exact if_pos rfl
    | true => show (if (45 : Nat) = 45 then b else 45 :: 45 :: b) = b; exact if_pos rfl
  | false => cases l with
    | false => exact key a N.ha
    | true => exact key b N.hb
theorem step_txt (x : Lt) (v : List Lt) : stepW (txtL a b x) (tW a b v) = tW a b (stepL x v) := by
  cases v with
  | nil => rfl
  | cons t r =>
    show (if txtL a b t = invW (txtL a b x) then tW a b r else txtL a b x :: txtL a b t :: tW a b r) = tW a b (if t = Lt.inv x then r else x :: t :: r)
    rw [inv_txt N]
    by_cases h : t = Lt.inv x
    · rw [if_pos (by rw [h]), if_pos h]
    · rw [if_neg (fun q => h (txt_inj N q)), if_neg h]; rfl
theorem steps_txt (v : List Lt) : ∀ w : List Lt, (tW a b w).foldr stepW (tW a b v) = tW a b (w.foldr stepL v)
  | [] => rfl
  | x :: w => by
    show stepW (txtL a b x) ((tW a b w).foldr stepW (tW a b v)) = tW a b (stepL x (w.foldr stepL v))
    rw [steps_txt v w, step_txt N]
theorem left_txt : ∀ (ls : List (List Lt)) (l0 : List Lt), (ls.map (tW a b)).foldl (fun acc l => acc.foldr stepW l) (tW a b l0) = tW a b (leftL l0 ls)
  | [], l0 => rfl
  | l :: ls, l0 => by
    show (ls.map (tW a b)).foldl _ ((tW a b l0).foldr stepW (tW a b l)) = tW a b (leftL (l0.foldr stepL l) ls)
    rw [steps_txt N]
    exact left_txt ls _
theorem right_txt : ∀ ls : List (List Lt), (ls.map (tW a b)).foldr (fun l acc => l.foldr stepW acc) [] = tW a b (rightL ls)
  | [] => rfl
  | l :: ls => by
    show (tW a b l).foldr stepW ((ls.map (tW a b)).foldr _ []) = tW a b (l.foldr stepL (rightL ls))
    rw [right_txt ls, steps_txt N]
theorem ok_txt (ls : List (List Lt)) : OkLs (ls.map (tW a b)) := fun l hl x hx => by
  obtain ⟨l', _, rfl⟩ := List.mem_map.mp hl
  obtain ⟨y, _, rfl⟩ := List.mem_map.mp hx
  exact len_txt N y
theorem wd_txt (l : List Lt) : Wd4 l.length (tW a b l) := ⟨by rw [List.length_map]; exact Nat.le_refl _, fun x hx => by
  obtain ⟨y, _, rfl⟩ := List.mem_map.mp hx
  exact len_txt N y⟩
end
theorem tot_red (a b : List Nat) : ∀ ls : List (List Lt), totL ((ls.map red).map (tW a b)) ≤ ls.flatten.length
  | [] => Nat.le_refl _
  | l :: ls => by
    have h1 := red_len l
    have h2 := tot_red a b ls
    show (tW a b (red l)).length + totL ((ls.map red).map (tW a b)) ≤ _
    rw [List.length_map, List.flatten_cons, List.length_append]; omega
end PW1
section LW1
noncomputable abbrev laFd (w : Wn) : FuncData := fdOf (WW w).K 799
structure LwX where
  s0 : Stmt
  t : Str
  pt : Pos
  g : Str
  pg : Pos
  j : Str
  pj : Pos
  lx : Str
  plx : Pos
  pjc : Pos
  z : Str
  kz : Nat
  pz : Pos
  pgc : Pos
  x : Str
  px : Pos
  it : Expr
  scope : Scope
  cp : Pos
  sp : Pos
  s2 : Stmt
  r : Str
  pr : Pos
  f : Str
  pf : Pos
  args : Arguments
  lb : Expr
  ls : Scope
  lp : Pos
  sq : Expr
  st : Expr
  pc : Pos
  p3 : Pos
  s4 : Stmt
  ea : Expr
  eb : Expr
  pb : Pos
  pe : Pos
noncomputable def LwX.elt (r : LwX) : Expr := .Call (.Name r.g r.pg) [.Call (.Name r.j r.pj) [.Name r.lx r.plx] [] r.pjc, .Constant (.str r.z) r.kz r.pz] [] r.pgc
noncomputable def LwX.comp (r : LwX) : Expr := .ListComp r.elt [⟨.Name r.x r.px, r.it, [], 0⟩] r.scope r.cp
noncomputable def LwX.s1 (r : LwX) : Stmt := .Assign [.Name r.t r.pt] r.comp r.sp
noncomputable def LwX.lam (r : LwX) : Expr := .Lambda r.args r.lb r.ls r.lp
noncomputable def LwX.s3 (r : LwX) : Stmt := .Assign [.Name r.r r.pr] (.Call (.Name r.f r.pf) [r.lam, r.sq, r.st] [] r.pc) r.p3
noncomputable def LwX.ret (r : LwX) : Stmt := .Return (some (.BoolOp .And [r.ea, r.eb] r.pb)) r.pe
noncomputable def LwX.all (r : LwX) : List Stmt := [r.s0, r.s1, r.s2, r.s3, r.s4, r.ret]
set_option backward.match.sparseCases false in
noncomputable def lwX : List Stmt → Option LwX
  | [s0, .Assign [.Name t pt] (.ListComp (.Call (.Name g pg) [.Call (.Name j pj) [.Name lx plx] _ pjc, .Constant (.str z) kz pz] _ pgc) [⟨.Name x px, it, _, _⟩] scope cp) sp, s2, .Assign [.Name r pr] (.Call (.Name f pf) [.Lambda args lb ls lp, sq, st] _ pc) p3, s4, .Return (some (.BoolOp _ [ea, eb] pb)) pe] => some ⟨s0, t, pt, g, pg, j, pj, lx, plx, pjc, z, kz, pz, pgc, x, px, it, scope, cp, sp, s2, r, pr, f, pf, args, lb, ls, lp, sq, st, pc, p3, s4, ea, eb, pb, pe⟩
  | _ => none
theorem lw_some (w : Wn) : (lwX (bodyOf (laFd w))).isSome = true := by kernel_rfl
noncomputable def lwG (w : Wn) : LwX := (lwX (bodyOf (laFd w))).get (lw_some w)
theorem lw_shape (w : Wn) : bodyOf (laFd w) = (lwG w).all := by kernel_rfl
noncomputable def LwX.good (r : LwX) : Bool := r.t == ("texts" : Str) && r.g == ("_law_product" : Str) && r.j == ("join_shlex" : Str) && r.lx == ("line" : Str) && r.x == ("line" : Str) && r.z == ("" : Str) && r.r == ("right" : Str) &&
  r.scope.names.all (fun z => z.2 != .cell && z.2 != .free && (z.2 != .local || r.scope.names.lookup z.1 == some .local)) && (r.scope.names.lookup ("line" : Str) == some .local) && (r.scope.names.lookup ("_law_product" : Str) == some .globalImplicit) && (r.scope.names.lookup ("join_shlex" : Str) == some .globalImplicit) && r.scope.kind == .function
theorem lw_good (w : Wn) : (lwG w).good = true := by kernel_rfl
noncomputable def LwX.lgood (r : LwX) : Bool := r.ls.names.all (fun z => z.2 != .cell && z.2 != .free) && !r.ls.isCoroutine && !r.ls.isGenerator && r.ls.kind == .function && (r.ls.names.lookup ("text" : Str) == some .local) && (r.ls.names.lookup ("line" : Str) == some .local)
theorem lw_lgood (w : Wn) : (lwG w).lgood = true := by kernel_rfl
theorem lw_names (w : Wn) : (["script", "one", "other", "lines", "texts", "left", "right", "due"] : List Str).all (fun x => (laFd w).scope.names.lookup x == some .local) = true := by kernel_rfl
theorem keep_dr (w : Wn) : keepOk (WW w).K (.ref 775) = true := by kernel_rfl
theorem keep_pl (w : Wn) : keepOk (WW w).K (.ref 794) = true := by kernel_rfl
theorem lw_s0 (w : Wn) (S ls : List PV) (one oth : Str) (h : Spec (WW w) 60 (.ref 775) [.l S] [] (.t [.s one, .s oth, .l ls]) []) : sx (mkCfg (laFd w).scope tabs (POrc.one (keep_dr w) h) (.none _ _)) 60 (lwG w).s0 [] ⟨[("script", .l S)], []⟩ = some (.next, [], ⟨[("script", .l S), ("one", .s one), ("other", .s oth), ("lines", .l ls)], []⟩, [Rf ([PV.l S], ([] : List PO))]) := by kernel_rfl
noncomputable abbrev laL (S ls : List PV) (one oth : Str) (ex : List (Str × PV)) : List (Str × PV) := ("script", .l S) :: ("one", .s one) :: ("other", .s oth) :: ("lines", .l ls) :: ex
noncomputable abbrev laCfg (w : Wn) : Cfg := mkCfg (W := WW w) (D := 60) (laFd w).scope tabs (blt _ _) (.none _ _)
theorem lw_it (w : Wn) (S ls : List PV) (one oth : Str) : pf (laCfg w) 10 (lwG w).it ⟨laL S ls one oth [], []⟩ = some (.l ls, [], []) := by kernel_rfl
theorem lw_s2 (w : Wn) (S ls ts : List PV) (one oth r : Str) (h : Spec (WW w) 60 (.ref 768) [.v (.ref 789), .l ts] [] (.s r) []) : sx (mkCfg (laFd w).scope tabs (POrc.one (keep_red w) h) (.none _ _)) 60 (lwG w).s2 [] ⟨laL S ls one oth [("texts", .l ts)], []⟩ = some (.next, [], ⟨laL S ls one oth [("texts", .l ts), ("left", .s r)], []⟩, [Rf ([PV.v (.ref 789), .l ts], ([] : List PO))]) := by kernel_rfl
theorem lw_f (w : Wn) (S ls ts : List PV) (one oth r : Str) : pe (laCfg w) 10 (.Name (lwG w).f (lwG w).pf) ⟨laL S ls one oth [("texts", .l ts), ("left", .s r)], []⟩ = some (.v (.ref 768), []) := by kernel_rfl
theorem lw_as (w : Wn) (S ls ts : List PV) (one oth r : Str) : pas (laCfg w) 10 [(lwG w).sq, (lwG w).st] ⟨laL S ls one oth [("texts", .l ts), ("left", .s r)], []⟩ = some ([.r ts, .s ""], [Ln ts]) := by kernel_rfl
theorem lw_s4 (w : Wn) (S ls ts ws : List PV) (one oth r q d : Str) (h : Spec (WW w) 60 (.ref 794) [.s one, .s oth, .l ls] [] (.l ws) []) (h2 : Spec (WW w) 60 (.ref 751) [.l ws] [] (.s d) []) : sx (mkCfg (laFd w).scope tabs ((POrc.one (keep_pl w) h).or (POrc.one (keep_join w) h2)) (.none _ _)) 60 (lwG w).s4 [] ⟨laL S ls one oth [("texts", .l ts), ("left", .s r), ("right", .s q)], []⟩ = some (.next, [], ⟨laL S ls one oth [("texts", .l ts), ("left", .s r), ("right", .s q), ("due", .s d)], []⟩, [Rf ([PV.s one, .s oth, .l ls], ([] : List PO)), Rf ([PV.l ws], ([] : List PO))]) := by kernel_rfl
theorem lw_ea (w : Wn) (S ls ts : List PV) (one oth r q d : Str) : pe (laCfg w) 10 (lwG w).ea ⟨laL S ls one oth [("texts", .l ts), ("left", .s r), ("right", .s q), ("due", .s d)], []⟩ = some (.v (.bool (r.cps.toList == d.cps.toList)), []) := by kernel_rfl
theorem lw_eb (w : Wn) (S ls ts : List PV) (one oth r q d : Str) : pe (laCfg w) 10 (lwG w).eb ⟨laL S ls one oth [("texts", .l ts), ("left", .s r), ("right", .s q), ("due", .s d)], []⟩ = some (.v (.bool (q.cps.toList == d.cps.toList)), []) := by kernel_rfl
theorem lw_fold (w : Wn) (env : Env) (x : Value) : foldedSetIterable (lwG w).it env x = pure x := by kernel_rfl
theorem lw_sw (w : Wn) : (pureO (swapsWith (lwG w).comp (some (.Name (lwG w).t (lwG w).pt)) (lwG w).sp.line (scEnv (laFd w).scope))) = some true := by kernel_rfl
theorem la_def (w : Wn) : defOk (WW w).K 799 ["script"] = true := by kernel_rfl
theorem la_bind (w : Wn) (v : Value) : runPure (WW w).K 30 (bindArgs (laFd w) ⟨[v], []⟩) = some ([("script", v)] : List (Str × Value)) := by kernel_rfl
theorem la_pd (w : Wn) : nsIn (WW w).K mainGlobals "_law_product" = some (some (.ref 789)) := by kernel_rfl
theorem la_jo (w : Wn) : nsIn (WW w).K mainGlobals "join_shlex" = some (some (.ref 751)) := by kernel_rfl
theorem la_code (w : Wn) : (laFd w).code = .ref 798 := by kernel_rfl
theorem la_tab (w : Wn) : codeAtB (WW w).K 798 lamTab = true := by kernel_rfl
theorem la_blt (w : Wn) : runPure (WW w).K 30 (builtinsFor mainGlobals builtinsNs) = some builtinsNs := by kernel_rfl
theorem la_nm (w : Wn) : (runPure (WW w).K 30 (nsGet mainGlobals "__name__")).isSome = true := by kernel_rfl
theorem lw_dflt (w : Wn) (env : Env) : defaultsOf (lwG w).args env = ([], []) := by kernel_rfl
noncomputable abbrev lamG (w : Wn) (q : Str) : FuncData := lamF q (lwG w).args (lwG w).lb (lwG w).ls
theorem lam_bind (w : Wn) (q : Str) (cd : Addr) (pm ct v u : Value) : runPure (WW w).K 30 (bindArgs (fnData (lamG w q) cd pm ct) ⟨[v, u], []⟩) = some ([("text", v), ("line", u)] : List (Str × Value)) := by kernel_rfl
noncomputable abbrev lmCfg {w : Wn} {x y r : Str} {objs : List PO} (h : Spec (WW w) 13 (.ref 789) [.s x, .s y] objs (.s r) objs) : Cfg := mkCfg (lwG w).ls tabs (POrc.one (keep_pd w) h) (.none _ _)
theorem lam_run (w : Wn) (x y r : Str) (objs : List PO) (h : Spec (WW w) 13 (.ref 789) [.s x, .s y] objs (.s r) objs) : pe (lmCfg h) 10 (lwG w).lb ⟨[("text", .s y), ("line", .s x)], objs⟩ = some (.s r, [Rf ([PV.s x, .s y], objs)]) := by kernel_rfl
theorem lam_spec (w : Wn) (q : Str) (a b : List (List Nat)) (ha : Wd4 1000 a) (hb : Wd4 1000 b) : FnSpec (WW w) 14 (lamG w q) [.s (tx (joinL b)), .s (tx (joinL a))] (.s (tx (joinL (a.foldr stepW b)))) := by
  intro objs c ok e room s fv vs R ifn B live frs O ia hq
  have g := lw_lgood w
  unfold LwX.lgood at g
  simp only [Bool.and_eq_true, beq_iff_eq, Bool.not_eq_true'] at g
  obtain ⟨⟨⟨⟨⟨g1, g2⟩, g3⟩, g4⟩, g5⟩, g6⟩ := g
  have sp := spec_product w ha hb objs
  have ev : ∀ c' : Fc, c'.Ok → c'.toWd = WW w → Room c'.A.in1 13 → c'.env.scope = (lwG w).ls → EvOk c' (lwG w).lb ⟨[("text", .s (tx (joinL b))), ("line", .s (tx (joinL a)))], objs⟩ (.s (tx (joinL (a.foldr stepW b)))) ⟨[("text", .s (tx (joinL b))), ("line", .s (tx (joinL a)))], objs⟩ := fun c' ok' e' room' hs' => by
    have gk := mkCfg_ok (t := tabs) (po := POrc.one (keep_pd w) sp) (eo := .none _ _) ok' e' room' (by decide) hs' (tabs_ok w)
    exact (pe_ok ok' gk 10).e _ _ _ (lam_run w (tx (joinL a)) (tx (joinL b)) _ objs sp) ⟨rfl, trivial⟩
  refine call_fn (D := 13) (body := (lwG w).lb) (loc := [("text", .s (tx (joinL b))), ("line", .s (tx (joinL a)))]) (objs := objs) (objs' := objs) ⟨rfl, rfl, rfl, rfl, fun z hz q => ?_, g2, g3, g4⟩ (nodupB_ok (l := ["text", "line"]) (by decide)) (fun x hx => ?_) (fun T ρ h us iu cd pm ct => ?_) (fun c' ok' e' room' hs' => ⟨_, ev c' ok' e' room' hs', rfl⟩) c ok e room ifn B live frs O ia hq
  · have h1 := List.all_eq_true.mp g1 z hz
    obtain ⟨h1, _⟩ := Bool.and_eq_true_iff.mp h1
    rw [q] at h1; cases h1
  · rcases List.mem_cons.mp hx with rfl | hx
    · exact g5
    · rcases List.mem_singleton.mp hx with rfl; exact g6
  · obtain ⟨v, u, rfl, i, j⟩ := isL2 iu
    exact ⟨_, lam_bind w q cd pm ct v u, rfl, .cons i (.cons j .nil)⟩
end LW1
section LW2
theorem celt_call {c : Fc} {V : View} {D : Nat} {g x : Str} {pg px pc : Pos} {scope : Scope} {f : Value} {p r : PV} (hglb : c.env.globals = mainGlobals) (hkind : scope.kind = .function) (hg : scope.names.lookup g = some .globalImplicit) (hx : scope.names.lookup x = some .local) (hdg : (g == ("__debug__" : Str)) = false) (hdx : (x == ("__debug__" : Str)) = false) (hf : nsIn c.K mainGlobals g = some (some f)) (hk : keepOk c.K f = true) (room : Room c.A D) (h : SpecP c.toWd D f [p] r) :
    CElt c (.Call (.Name g pg) [.Name x px] [] pc) scope x V p r := by
  intro T C s m v Q E ok I hn hm i k
  refine wpAny_Call_NameR ?_
  refine Calls.Name_function_global hkind hg ?_ hdg
  unfold loadGlobal
  rw [show (compEnv scope C c.env).globals = mainGlobals from hglb]
  refine nsMain I.base.k hf rfl (wpAny_pure ?_)
  refine callWith_of (P := c.K.In) (by rw [starEach_any (by rfl)]; rfl) (keeps_ok hk) (evalArgs_any (starEach_any (by rfl)) ?_)
  rw [starEach_cons (by rfl)]
  refine Calls.spliced_cons (wpAny_Name (wpAny_loadName_local (env := compEnv scope C c.env) hkind hx hn hm ?_) hdx)
  refine Calls.spliced_nil ⟨I.base.k, ?_⟩
  refine h V.objs (c.at T c.ρ) ok rfl room s [v] Q E I.base I.live I.frs I.rep.objs (.cons i .nil) fun s3 v3 t3 B3 F3 O3 i3 => k s3 v3 (I.called ok t3 B3 F3 O3) (t3.sub mutsOf_sub) i3
theorem celt_call2 {c : Fc} {V : View} {D : Nat} {g x z : Str} {pg pc pz : Pos} {kz : Nat} {e1 : Expr} {scope : Scope} {f : Value} {p p1 r : PV} (hglb : c.env.globals = mainGlobals) (hkind : scope.kind = .function) (hg : scope.names.lookup g = some .globalImplicit) (hdg : (g == ("__debug__" : Str)) = false) (hf : nsIn c.K mainGlobals g = some (some f)) (hk : keepOk c.K f = true) (room : Room c.A D) (h1 : noStar e1 = true) (he : CElt c e1 scope x V p p1) (h : SpecP c.toWd D f [p1, .s z] r) :
    CElt c (.Call (.Name g pg) [e1, .Constant (.str z) kz pz] [] pc) scope x V p r := by
  intro T C s m v Q E ok I hn hm i k
  refine wpAny_Call_NameR ?_
  refine Calls.Name_function_global hkind hg ?_ hdg
  unfold loadGlobal
  rw [show (compEnv scope C c.env).globals = mainGlobals from hglb]
  refine nsMain I.base.k hf rfl (wpAny_pure ?_)
  have hs : ([e1, .Constant (.str z) kz pz] : List Expr).all noStar = true := by show (noStar e1 && (true && true)) = true; rw [h1]; rfl
  refine callWith_of (P := c.K.In) (by rw [starEach_any hs]; rfl) (keeps_ok hk) (evalArgs_any (starEach_any hs) ?_)
  rw [starEach_cons h1]
  refine Calls.spliced_cons (he T C s m v _ E ok I hn hm i fun s1 v1 I1 t1 i1 => ?_)
  rw [starEach_cons (by rfl)]
  refine Calls.spliced_cons (wpAny_Constant_str (k := kz) (pos := pz) ?_)
  have I2 := I1.toks (s1.toks + 1)
  have t2 : St c.N c.muts s { s1 with toks := s1.toks + 1 } := t1.trans (.toks _)
  refine Calls.spliced_nil ⟨I2.base.k, ?_⟩
  refine h V.objs (c.at T c.ρ) ok rfl room _ [v1, .str z s1.toks] Q E I2.base I2.live I2.frs I2.rep.objs (.cons i1 (.cons (.s _ _) .nil)) fun s3 v3 t3 B3 F3 O3 i3 => k s3 v3 (I2.called ok t3 B3 F3 O3) (t2.trans (t3.sub mutsOf_sub)) i3
theorem ev_and {c : Fc} {V : View} {e1 e2 : Expr} {pos : Pos} (ha : EvOk c e1 V (.v (.bool true)) V) (hb : EvOk c e2 V (.v (.bool true)) V) : EvOk c (.BoolOp .And [e1, e2] pos) V (.v (.bool true)) V := by
  intro s Q E I h
  refine BoolOp_and (ha s _ E I fun s1 v I1 t1 i1 => ?_)
  cases i1
  refine wpAny_truthy_bool ?_
  exact BoolOp_one (hb s1 _ E I1 fun s2 u I2 t2 i2 => h s2 u I2 (t1.trans t2) i2)
end LW2
section LW3
theorem mem_le_sum {n : Nat} : ∀ {l : List Nat}, n ∈ l → n ≤ l.sum
  | a :: r, h => by
    rw [List.sum_cons]
    rcases List.mem_cons.mp h with rfl | h
    · omega
    · have := mem_le_sum h; omega
theorem lines_ne (S : List Int) : ∃ l0 ls, linesD S = l0 :: ls := by
  cases h : linesD S with
  | nil => exact absurd h (by unfold linesD; simp)
  | cons a r => exact ⟨a, r, rfl⟩
theorem rep1 {a b c n k : Nat} (h : a + b ≤ 2 * n) (hk : k ≤ 2) (e : c = k + a) : c + b ≤ 2 * (n + 1) := by omega
theorem dstep_len {st : DSt} {n : Nat} (h : st.1.length + st.2.flatten.length ≤ 2 * n) (x : Int) : (dstep x st).1.length + (dstep x st).2.flatten.length ≤ 2 * (n + 1) := by
  unfold dstep
  split
  · show 0 + (st.1.reverse :: st.2).flatten.length ≤ _
    rw [List.flatten_cons, List.length_append, List.length_reverse, Nat.zero_add]
    exact Nat.le_trans h (Nat.mul_le_mul_left 2 (Nat.le_succ n))
  · show (List.replicate (repD x) (letD x) ++ st.1).length + st.2.flatten.length ≤ _
    exact rep1 h (rep_b x).1 (by rw [List.length_append, List.length_replicate])
theorem dsteps_len : ∀ (ns : List Int) (st : DSt) (n : Nat), st.1.length + st.2.flatten.length ≤ 2 * n → (ns.foldl (fun st x => dstep x st) st).1.length + (ns.foldl (fun st x => dstep x st) st).2.flatten.length ≤ 2 * (n + ns.length)
  | [], st, n, h => h
  | x :: r, st, n, h => by
    have := dsteps_len r (dstep x st) (n + 1) (dstep_len h x)
    rwa [List.length_cons, Nat.add_comm r.length 1, ← Nat.add_assoc]
theorem lines_len (S : List Int) : (linesD S).flatten.length ≤ 32 ∧ (linesD S).length ≤ 17 := by
  have hz := drawSt_sz (rowNs S)
  have hn := rowNs_len S
  have h := dsteps_len (rowNs S) ([], []) 0 (Nat.le_refl _)
  have hf : (linesD S).flatten.length = (drawSt (rowNs S)).1.length + (drawSt (rowNs S)).2.flatten.length := by
    unfold linesD
    rw [List.flatten_append, List.length_append, List.flatten_cons, List.flatten_nil, List.append_nil, List.length_reverse, List.length_flatten, List.length_flatten, List.map_reverse, List.sum_reverse]
    exact Nat.add_comm _ _
  constructor
  · rw [hf]
    rw [Nat.zero_add] at h
    exact Nat.le_trans h (Nat.mul_le_mul_left 2 hn)
  · unfold linesD
    rw [List.length_append, List.length_reverse, List.length_singleton]
    exact Nat.succ_le_succ (Nat.le_trans hz.d hn)
structure LwC (w : Wn) (c : Fc) : Prop where
  ok : c.Ok
  e : c.toWd = WW w
  room : Room c.A.in1 60
  hs : c.env.scope = (laFd w).scope
  cd : c.env.code = .ref 798
  hN : lamTab < c.N
theorem lw_kind {w : Wn} {c : Fc} (R : LwC w c) {x : Str} (h : x ∈ (["script", "one", "other", "lines", "texts", "left", "right", "due"] : List Str)) : c.env.kindOf x = some .local := by
  unfold Env.kindOf
  rw [R.hs]; exact beq_iff_eq.mp (List.all_eq_true.mp (lw_names w) _ h)
theorem sT_tW (a b : List Nat) (v : List Lt) : sT (tW a b v) = sL a b v := by unfold sT tW sL; rw [List.map_map]; rfl
noncomputable abbrev tR (a b : List Nat) (ls : List (List Lt)) : List PV := tJ ((ls.map red).map (tW a b))
theorem tR_get {a b : List Nat} {ls : List (List Lt)} {i : Nat} {p r : PV} (hn : ls.flatten.length ≤ 32) (hp : (lnL a b ls)[i]? = some p) (hr : (tR a b ls)[i]? = some r) : ∃ l : List Lt, l.length ≤ 32 ∧ p = .l (sL a b l) ∧ r = .s (tx (joinL (tW a b (red l)))) := by
  have hp : ((ls.map (sL a b)).map PV.l)[i]? = some p := hp
  have hr : (((ls.map red).map (tW a b)).map fun l => PV.s (tx (joinL l)))[i]? = some r := hr
  rw [List.getElem?_map, List.getElem?_map] at hp
  rw [List.getElem?_map, List.getElem?_map, List.getElem?_map] at hr
  cases et : ls[i]? with
  | none => rw [et] at hp; exact no hp
  | some l =>
    rw [et] at hp hr
    refine ⟨l, Nat.le_trans ?_ hn, (Option.some.inj hp).symm, (Option.some.inj hr).symm⟩
    rw [List.length_flatten]
    exact mem_le_sum (List.mem_map_of_mem (List.mem_of_getElem? et))
theorem lw_specs (w : Wn) {a b : List Nat} (N : Names2 a b) (l : List Lt) (ll : l.length ≤ 32) : SpecP (WW w) 13 (.ref 751) [.l (sL a b l)] (.s (tx (joinL (tW a b l)))) ∧ SpecP (WW w) 13 (.ref 789) [.s (tx (joinL (tW a b l))), .s ""] (.s (tx (joinL (tW a b (red l))))) := by
  have wl := wd_txt N l
  constructor
  · rw [show (.l (sL a b l) : PV) = .l ((tW a b l).map fun t => .s (tx t)) from by show PV.l _ = PV.l (sT _); rw [sT_tW]]
    exact (spec_join w (tW a b l) (fun t ht => by have := wl.w t ht; omega) (by have := quotes_len wl.w; rw [List.length_map] at this ⊢; omega)).le (by decide)
  · have := spec_product w (a := tW a b l) (b := []) (wl.le (by omega)) (.nil 1000)
    rw [show ([] : List (List Nat)) = tW a b [] from rfl, steps_txt N] at this
    exact this
theorem lw_texts {w : Wn} {c : Fc} (R : LwC w c) {a b : List Nat} (N : Names2 a b) {S : List PV} (ls : List (List Lt)) (hn : ls.flatten.length ≤ 32) (hl : ls.length ≤ 17) : SxOk c (lwG w).s1 ⟨laL S (lnL a b ls) (tx a) (tx b) [], []⟩ .next ⟨laL S (lnL a b ls) (tx a) (tx b) [("texts", .l (tR a b ls))], []⟩ := by
  have g := lw_good w
  unfold LwX.good at g
  simp only [Bool.and_eq_true, beq_iff_eq] at g
  obtain ⟨⟨⟨⟨⟨⟨⟨⟨⟨⟨⟨g1, g2⟩, g3⟩, g4⟩, g5⟩, g6⟩, g7⟩, g8⟩, g9⟩, g10⟩, g11⟩, g12⟩ := g
  have hsc : ∀ z ∈ (lwG w).scope.names, z.2 ≠ .free ∧ z.2 ≠ .cell ∧ (z.2 = .local → (lwG w).scope.names.lookup z.1 = some .local) := fun z hz => by
    have := List.all_eq_true.mp g8 z hz
    obtain ⟨h12, h3⟩ := Bool.and_eq_true_iff.mp this
    obtain ⟨h1, h2⟩ := Bool.and_eq_true_iff.mp h12
    refine ⟨fun q => (by rw [q] at h2; cases h2), fun q => (by rw [q] at h1; cases h1), fun q => ?_⟩
    rw [q] at h3
    rcases Bool.or_eq_true_iff.mp h3 with h3 | h3
    · cases h3
    · exact eq_of_beq h3
  have gk := mkCfg_ok (t := tabs) (po := blt _ 60) (eo := .none _ _) R.ok R.e R.room (by decide) R.hs (tabs_ok w)
  have hit := pf_ev R.ok gk (lw_it w S (lnL a b ls) (tx a) (tx b)) trivial
  have hsw : swapsWith (lwG w).comp (some (.Name (lwG w).t (lwG w).pt)) (lwG w).sp.line c.env = pure true := (swaps_same _ _ _ _ _ R.hs).trans (pureO_is (lw_sw w))
  have hf := fun x => lw_fold w c.env x
  have eK : c.K = (WW w).K := congrArg Wd.K R.e
  have kpd : keepOk c.K (.ref 789) = true := by rw [eK]; exact keep_pd w
  have kjo : keepOk c.K (.ref 751) = true := by rw [eK]; exact keep_join w
  have fpd : nsIn c.K mainGlobals "_law_product" = some (some (.ref 789)) := by rw [eK]; exact la_pd w
  have fjo : nsIn c.K mainGlobals "join_shlex" = some (some (.ref 751)) := by rw [eK]; exact la_jo w
  have ktx := lw_kind R (x := "texts") (by decide)
  unfold LwX.s1
  unfold LwX.comp LwX.elt at hsw ⊢
  generalize lwG w = G at *
  rw [g1, g2, g3, g4, g5, g6] at hsw ⊢
  refine sx_listcomp (V := ⟨laL S (lnL a b ls) (tx a) (tx b) [], []⟩) (ps := lnL a b ls) (rs := tR a b ls) R.ok R.room.handled hsw ktx (fun z hz => (hsc z hz).1) (fun z hz => (hsc z hz).2.1) (fun z hz => (hsc z hz).2.2) g12 g9 hit hf (by rw [List.length_map, List.length_map, List.length_map, lnL_len]) (by rw [lnL_len]; omega) fun i p r hp hr => ?_
  obtain ⟨l, ll, rfl, rfl⟩ := tR_get hn hp hr
  obtain ⟨h1, h2⟩ := lw_specs w N l ll
  rw [← R.e] at h1 h2
  exact celt_call2 (D := 13) (f := .ref 789) R.ok.glb g12 g10 (by decide) fpd kpd (R.room.of_in1.le (by decide)) rfl (celt_call (D := 13) (f := .ref 751) R.ok.glb g12 g11 g9 (by decide) (by decide) fjo kjo (R.room.of_in1.le (by decide)) h1) h2
end LW3
section LW4
structure LawRun (N : Nat) (F : List Addr) (s s' : Shared) : Prop where
  go : ∃ s1 s2, St N F s s1 ∧ LamStep s1 s2 ∧ St N F s2 s'
theorem tab_keep {w : Wn} {c : Fc} (R : LwC w c) {s s1 : Shared} (t1 : St c.N c.muts s s1) (ht : s.heap.get? lamTab = some (X.tableObj #[])) : s1.heap.get? lamTab = some (X.tableObj #[]) := by
  have hnm : lamTab ∉ c.muts := fun z => absurd (R.ok.fx.low _ (R.ok.fx.mem _ z)) (Nat.not_le.mpr R.hN)
  have q := t1.keep.off lamTab _ hnm ht
  generalize s1.heap.get? lamTab = rr at q
  cases q with
  | same => rfl
  | slots sl _ hc => cases hc
  | tab vs more lt nl q tr => exact absurd rfl nl
theorem lw_right {w : Wn} {c : Fc} (R : LwC w c) {S ls ts : List PV} {one oth l r : Str} {s : Shared} {Q : Flow → Shared → Prop} {E : Value → Shared → Prop} (lts : Ln ts) (h : ∀ q : Str, SpecP (WW w) 15 (.ref 768) [.fn (lamG w q), .r ts, .s ""] (.s r)) (I : Inv c ⟨laL S ls one oth [("texts", .l ts), ("left", .s l)], []⟩ s) (ht : s.heap.get? lamTab = some (X.tableObj #[]))
    (k : ∀ s1 s2 s3, St c.N c.muts s s1 → LamStep s1 s2 → St c.N c.muts s2 s3 → Inv c ⟨laL S ls one oth [("texts", .l ts), ("left", .s l), ("right", .s r)], []⟩ s3 → Q .next s3) : wpAny c.M c.A (exec (lwG w).s3 c.env) Q E s := by
  have g := lw_good w
  unfold LwX.good at g
  simp only [Bool.and_eq_true, beq_iff_eq] at g
  have g7 := g.1.1.1.1.1.2
  have gl := lw_lgood w
  unfold LwX.lgood at gl
  simp only [Bool.and_eq_true, beq_iff_eq, Bool.not_eq_true'] at gl
  have gl1 := gl.1.1.1.1.1
  have gk := mkCfg_ok (t := tabs) (po := blt _ 60) (eo := .none _ _) R.ok R.e R.room (by decide) R.hs (tabs_ok w)
  have eK : c.K = (WW w).K := congrArg Wd.K R.e
  have hk : keepOk c.K (.ref 768) = true := by rw [eK]; exact keep_red w
  have hf := (pe_ok R.ok gk 10).e _ _ _ (lw_f w S ls ts one oth l) trivial
  have ha := (pe_ok R.ok gk 10).as _ _ _ (lw_as w S ls ts one oth l) ⟨lts, trivial⟩
  have hst : ([(lwG w).sq, (lwG w).st] : List Expr).all noStar = true := by kernel_rfl
  have hb : runPure c.K 30 (builtinsFor mainGlobals builtinsNs) = some builtinsNs := by rw [eK]; exact la_blt w
  obtain ⟨pm0, hnm⟩ := Option.isSome_iff_exists.mp (la_nm w)
  rw [← eK] at hnm
  have htb : codeAtB c.K 798 lamTab = true := by rw [eK]; exact la_tab w
  have kr := lw_kind R (x := "right") (by decide)
  have hd := lw_dflt w c.env
  have hcl : closureFor (lwG w).ls c.env = pure [] := closureFor_none fun x hx q => by
    have h1 := List.all_eq_true.mp gl1 x hx
    obtain ⟨_, h1⟩ := Bool.and_eq_true_iff.mp h1
    rw [q] at h1; cases h1
  have hsp := h c.env.qual
  unfold LwX.s3
  unfold lamG at hsp
  generalize lwG w = G at *
  rw [g7]
  refine wpAny_Assign_Name (wpAny_Call_NameR (hf s _ E I fun s1 v I1 t1 i1 => ?_)) (swaps_no rfl)
  cases i1
  have hs3 : ([G.lam, G.sq, G.st] : List Expr).all noStar = true := by show (true && ([G.sq, G.st] : List Expr).all noStar) = true; rw [hst]; rfl
  refine callWith_of (P := c.K.In) (by rw [starEach_any hs3]; rfl) (keeps_ok hk) (evalArgs_any (starEach_any hs3) ?_)
  rw [starEach_cons (show noStar G.lam = true from rfl)]
  have ht1 := tab_keep R t1 ht
  unfold LwX.lam
  refine Calls.spliced_cons (wp_lambda R.ok I1 R.cd htb ht1 hd hcl hb hnm R.hN fun s2 fv L2 I2 iv => ?_)
  refine ha s2 _ _ E I2 fun s3 us I3 t3 i3 => ⟨I3.base.k, ?_⟩
  refine hsp [] c R.ok R.e (R.room.of_in1.le (by decide)) s3 (fv :: us) _ E I3.base I3.live I3.frs I3.rep.objs (.cons (iv.st R.ok t3) i3) fun s4 v4 t4 B4 F4 O4 i4 => ?_
  have I4 := I3.called R.ok t4 B4 F4 O4
  refine store_name (x := "right") R.ok kr I4 i4 fun s5 I5 t5 => ?_
  exact k s1 s2 s5 t1 L2 (t3.trans ((t4.sub mutsOf_sub).trans t5)) I5
theorem law_wp {w : Wn} {c : Fc} (R : LwC w c) {S : List Int} (hS : S.length ≤ 1000000) {s : Shared} {Q : Flow → Shared → Prop} {E : Value → Shared → Prop} (I : Inv c ⟨[("script", .l (iS S))], []⟩ s) (ht : s.heap.get? lamTab = some (X.tableObj #[]))
    (k : ∀ s', LawRun c.N c.muts s s' → Q (.ret (.bool true)) s') : wpAny c.M c.A (execs (bodyOf (laFd w)) c.env) Q E s := by
  have N := names_ok (rowNs S).sum
  obtain ⟨l0, ls, hls⟩ := lines_ne S
  obtain ⟨hfl, hll⟩ := lines_len S
  have hdr := spec_drawn w S hS
  rw [hls] at hdr hfl hll
  generalize oneD (rowNs S).sum = a at *
  generalize othD (rowNs S).sum = b at *
  have fl := left_ok ls (red l0) l0 (free_red l0) (mat_red l0)
  have fr := right_ok (l0 :: ls)
  have eLR : rightL ((l0 :: ls).map red) = leftL (red l0) (ls.map red) := free_uniq _ _ fr.1 fl.1 (by rw [fr.2, fl.2, List.flatten_cons])
  have tot := tot_red a b (l0 :: ls)
  have okl := ok_txt N ((l0 :: ls).map red)
  have hL : SpecP (WW w) 14 (.ref 768) [.v (.ref 789), .l (tR a b (l0 :: ls))] (.s (tx (joinL (tW a b (leftL (red l0) (ls.map red)))))) := by
    have := spec_left w (tW a b (red l0)) ((ls.map red).map (tW a b)) okl (by show totL (((l0 :: ls).map red).map (tW a b)) ≤ _; omega)
    rw [left_txt N] at this
    exact this
  have hR : ∀ q : Str, SpecP (WW w) 15 (.ref 768) [.fn (lamG w q), .r (tR a b (l0 :: ls)), .s ""] (.s (tx (joinL (tW a b (leftL (red l0) (ls.map red)))))) := fun q => by
    have := spec_right w (lam_spec w q) (((l0 :: ls).map red).map (tW a b)) okl (by omega)
    rw [right_txt N, eLR] at this
    exact this
  have lenv : (leftL (red l0) (ls.map red)).length ≤ (l0 :: ls).flatten.length := by
    have h1 := left_len ls (red l0)
    have h2 := red_len l0
    rw [List.flatten_cons, List.length_append]; omega
  have hP := spec_peeled w N (l0 :: ls) (leftL (red l0) (ls.map red)) (by rw [fl.2, List.flatten_cons]) fl.1 lenv (by omega)
  have wv := wd_txt N (leftL (red l0) (ls.map red))
  have hJ : SpecP (WW w) 6 (.ref 751) [.l (sL a b (leftL (red l0) (ls.map red)))] (.s (tx (joinL (tW a b (leftL (red l0) (ls.map red)))))) := by
    have := spec_join w (tW a b (leftL (red l0) (ls.map red))) (fun t h => by have := wv.w t h; omega) (by have := quotes_len wv.w; rw [List.length_map] at this ⊢; omega)
    rw [← sT_tW]
    exact this
  have hT := lw_texts (S := iS S) R N (l0 :: ls) hfl hll
  have lts : Ln (tR a b (l0 :: ls)) := by show _ ≤ 1000000; rw [List.length_map, List.length_map, List.length_map]; omega
  have ltot : (tW a b (leftL (red l0) (ls.map red))).length ≤ 32 := by rw [List.length_map]; omega
  clear okl eLR tot
  have jr : ((tx (joinL (tW a b (leftL (red l0) (ls.map red))))).cps.toList == (tx (joinL (tW a b (leftL (red l0) (ls.map red))))).cps.toList) = true := beq_self_eq_true _
  have sp0 : Spec (WW w) 60 (.ref 775) [.l (iS S)] [] (.t [.s (tx a), .s (tx b), .l (lnL a b (l0 :: ls))]) [] := (hdr.le (by decide)) []
  have sp2 : Spec (WW w) 60 (.ref 768) [.v (.ref 789), .l (tR a b (l0 :: ls))] [] (.s (tx (joinL (tW a b (leftL (red l0) (ls.map red)))))) [] := (hL.le (by decide)) []
  have sp4 : Spec (WW w) 60 (.ref 794) [.s (tx a), .s (tx b), .l (lnL a b (l0 :: ls))] [] (.l (sL a b (leftL (red l0) (ls.map red)))) [] := (hP.le (by decide)) []
  have sp5 : Spec (WW w) 60 (.ref 751) [.l (sL a b (leftL (red l0) (ls.map red)))] [] (.s (tx (joinL (tW a b (leftL (red l0) (ls.map red)))))) [] := (hJ.le (by decide)) []
  clear hdr hL hP hJ wv lenv fl fr N
  generalize lnL a b (l0 :: ls) = LS at *
  generalize tR a b (l0 :: ls) = TS at *
  generalize sL a b (leftL (red l0) (ls.map red)) = WS at *
  generalize tx (joinL (tW a b (leftL (red l0) (ls.map red)))) = J at *
  generalize tx a = one at *
  generalize tx b = oth at *
  have r0 := lw_s0 w (iS S) LS one oth sp0
  have r2 := lw_s2 w (iS S) LS TS one oth J sp2
  have r4 := lw_s4 w (iS S) LS TS WS one oth J J J sp4 sp5
  have ra := lw_ea w (iS S) LS TS one oth J J J
  have rb := lw_eb w (iS S) LS TS one oth J J J
  rw [jr] at ra rb
  have g0 := mkCfg_ok (t := tabs) (po := POrc.one (keep_dr w) sp0) (eo := .none _ _) R.ok R.e R.room (by decide) R.hs (tabs_ok w)
  have g2 := mkCfg_ok (t := tabs) (po := POrc.one (keep_red w) sp2) (eo := .none _ _) R.ok R.e R.room (by decide) R.hs (tabs_ok w)
  have g4 := mkCfg_ok (t := tabs) (po := (POrc.one (keep_pl w) sp4).or (POrc.one (keep_join w) sp5)) (eo := .none _ _) R.ok R.e R.room (by decide) R.hs (tabs_ok w)
  have gk := mkCfg_ok (t := tabs) (po := blt _ 60) (eo := .none _ _) R.ok R.e R.room (by decide) R.hs (tabs_ok w)
  have x0 := (sx_ok R.ok g0 60).s _ _ _ _ _ _ _ r0 ⟨rfl, trivial⟩
  have x2 := (sx_ok R.ok g2 60).s _ _ _ _ _ _ _ r2 ⟨rfl, trivial⟩
  have x4 := (sx_ok R.ok g4 60).s _ _ _ _ _ _ _ r4 ⟨rfl, rfl, trivial⟩
  have xa := (pe_ok R.ok gk 10).e _ _ _ ra trivial
  have xb := (pe_ok R.ok gk 10).e _ _ _ rb trivial
  have x3 := fun {s : Shared} {Q : Flow → Shared → Prop} {E : Value → Shared → Prop} => lw_right (Q := Q) (E := E) (s := s) (S := iS S) (ls := LS) (one := one) (oth := oth) (l := J) R lts hR
  rw [lw_shape w]
  clear r0 r2 r4 ra rb g0 g2 g4 gk
  unfold LwX.all LwX.ret
  generalize lwG w = G at *
  refine wpAny_execs_cons (x0 s _ E I fun s1 fl I1 t1 hf => ?_)
  cases hf
  refine wpAny_execs_cons (hT s1 _ E I1 fun s2 fl I2 t2 hf => ?_)
  cases hf
  refine wpAny_execs_cons (x2 s2 _ E I2 fun s3 fl I3 t3 hf => ?_)
  cases hf
  have t13 := t1.trans (t2.trans t3)
  refine wpAny_execs_cons (x3 I3 (tab_keep R t13 ht) fun sa sb sc ta L tc I4 => ?_)
  refine wpAny_execs_cons (x4 sc _ E I4 fun s5 fl I5 t5 hf => ?_)
  cases hf
  refine wpAny_execs_cons (sx_return (ev_and xa xb) s5 _ E I5 fun s6 fl I6 t6 hf => ?_)
  obtain ⟨v, rfl, iv⟩ := hf
  cases iv
  exact k s6 ⟨sa, sb, t13.trans ta, L, tc.trans (t5.trans t6)⟩
end LW4
section T1
noncomputable abbrev StT := SharedT → Thread → Option (SharedT × Thread)
set_option backward.match.sparseCases false in
noncomputable def impT (st : StT) : Nat → SharedT → Thread → Option SharedT
  | 0, _, _ => none
  | n + 1, s, t => match t.atExitBegin with
    | some l => (match l with | [] => some s | _ :: _ => none)
    | none => match st s t with
      | some r => impT st n r.1 r.2
      | none => none
set_option backward.match.sparseCases false in
noncomputable def topT (st : StT) (ok : Thread → Bool) : Nat → SharedT → Thread → Option SharedT
  | 0, _, _ => none
  | n + 1, s, t => match through t with
    | true => some s
    | false => match ok t with
      | false => none
      | true => match st s t with
        | some r => topT st ok n r.1 r.2
        | none => none
set_option backward.match.sparseCases false in
noncomputable def growT : List Obj → Nat → BT → Option BT
  | [], _, T => some T
  | o :: r, n, T => match ((T.ins n o).get n).isSome with
    | true => growT r (n + 1) (T.ins n o)
    | false => none
noncomputable def toT (s : Shared) : Option SharedT := (growT s.heap.objs.toList 0 .nil).map fun T => ⟨T, s.heap.objs.size, s.heap.life, s.gens, s.drawn, s.toks, s.os⟩
theorem grow_of {life : Life} : ∀ {l : List Obj} {n : Nat} {T T' : BT}, growT l n T = some T' → absHeap T' (n + l.length) life = ⟨(absHeap T n life).objs ++ l.toArray, life⟩
  | [], n, T, T', h => by cases h; simp [absHeap]
  | o :: r, n, T, T', h => by
    unfold growT at h
    cases e : ((T.ins n o).get n).isSome with
    | false => rw [e] at h; cases h
    | true =>
      rw [e] at h
      have := grow_of (life := life) h
      rw [absHeap_ins e] at this
      rw [List.length_cons, show n + (r.length + 1) = n + 1 + r.length by omega, this]
      simp [Heap.push]
theorem toT_abs {s : Shared} {x : SharedT} (h : toT s = some x) : x.abs = s := by
  obtain ⟨T, e, rfl⟩ := Option.map_eq_some_iff.mp h
  have := grow_of (life := s.heap.life) e
  obtain ⟨⟨objs, life⟩, g, d, k, os⟩ := s
  unfold SharedT.abs
  simp only at this ⊢
  rw [Nat.zero_add, Array.length_toList] at this
  rw [this]
  simp [absHeap, BT.list]
theorem impT_of {tb : String → Option Builtin} {p : Program} {w : World} : ∀ {n : Nat} {s s' : SharedT} {t : Thread}, impT (stepT (denote tb) p w) n s t = some s' → importEnds tb p w n s.abs t = some s'.abs
  | 0, _, _, _, h => by cases h
  | n + 1, s, s', t, h => by
    unfold impT at h
    unfold importEnds
    cases e : t.atExitBegin with
    | some l =>
      rw [e] at h
      cases l with
      | nil => cases h; rfl
      | cons _ _ => cases h
    | none =>
      rw [e] at h
      cases e2 : stepT (denote tb) p w s t with
      | none => rw [e2] at h; cases h
      | some r =>
        rw [e2] at h
        obtain ⟨s2, t2⟩ := r
        dsimp only
        rw [stepT_spec e2]
        exact impT_of h
theorem topT_of {tb : String → Option Builtin} {p : Program} {w : World} {n₀ : Nat} {ann : Option Value} : ∀ {n : Nat} {s s' : SharedT} {t : Thread}, topT (stepT (denote tb) p w) (stepOk n₀ ann) n s t = some s' → topRun tb p w n₀ ann n s.abs t = some s'.abs
  | 0, _, _, _, h => by cases h
  | n + 1, s, s', t, h => by
    unfold topT at h
    unfold topRun
    cases e : through t with
    | true => rw [e] at h; cases h; rfl
    | false =>
      rw [e] at h
      cases e1 : stepOk n₀ ann t with
      | false => rw [e1] at h; cases h
      | true =>
        rw [e1] at h
        cases e2 : stepT (denote tb) p w s t with
        | none => rw [e2] at h; cases h
        | some r =>
          rw [e2] at h
          obtain ⟨s2, t2⟩ := r
          dsimp only
          rw [stepT_spec e2]
          exact topT_of h
noncomputable def allT (st : Program → StT) (fn : Shared → Option Shared) (p : Program) (M N : Nat) : Option (Shared × SharedT) :=
  (toT (start (opening p)).1).bind fun s => (impT (st (opening p)) M s (start (opening p)).2).bind fun s => (fn s.abs).bind fun s₀ => (toT s₀).bind fun x =>
    (topT (st p) (stepOk s₀.heap.objs.size (s₀.heap.nsMap mainGlobals "__annotations__")) N x (topStub p)).map fun s₁ => (s₀, s₁)
set_option backward.match.sparseCases false in
noncomputable def getT (x : SharedT) (a : Nat) : Option Obj := match Nat.blt a x.n with
  | true => (match x.tree.get a with
    | some o => alive o
    | none => none)
  | false => none
theorem getT_is {x : SharedT} {a : Nat} {o : Obj} (h : getT x a = some o) : x.abs.heap.get? a = some o := by
  unfold getT at h
  cases e : Nat.blt a x.n with
  | false => rw [e] at h; cases h
  | true =>
    rw [e] at h
    cases g : x.tree.get a with
    | none => rw [g] at h; cases h
    | some o' =>
      rw [g] at h
      exact (abs_get (Nat.le_of_ble_eq_true e) g).trans h
theorem left_of {p q : Program} {loose : List Str} {Xt : Shared → Bool} {α β : Type} {Yf : Shared → α} {Ya : World → α} {Yt : SharedT → β} {yt : World → β} {M N K : Nat} (hM : M ≤ K) (hN : N ≤ K) (hy : ∀ x w, Yt x = yt w → Yf x.abs = Ya w)
    (h : ∀ w : World, (allT (fun p => stepT (denote treeTable) p w) (fenceModules? p) p M N).map (fun x => ((x.1.heap.isNs mainGlobals && x.1.gens.size == 0) && (staticsOk (importedModules p.main.body) x.1.heap x.2.abs.heap && namesBound p x.2.abs.heap && gensDone x.2.abs && laidKept x.1.heap x.2.abs.heap),
      openSeen q loose (importedModules p.main.body) Xt true x.2.abs, Yt x.2)) = some (true, openGood q loose, yt w)) : LeftO p q loose Xt Yf Ya K := fun w => by
  obtain ⟨⟨s₀, s₁⟩, e, e'⟩ := Option.map_eq_some_iff.mp (h w)
  obtain ⟨sa, ea, e⟩ := Option.bind_eq_some_iff.mp e
  obtain ⟨sb, eb, e⟩ := Option.bind_eq_some_iff.mp e
  obtain ⟨s₀', ec, e⟩ := Option.bind_eq_some_iff.mp e
  obtain ⟨x, ed, e⟩ := Option.bind_eq_some_iff.mp e
  obtain ⟨s₁', ee, e⟩ := Option.map_eq_some_iff.mp e
  obtain ⟨rfl, rfl⟩ : s₀' = s₀ ∧ s₁' = s₁ := by simpa using e
  have i := impT_of eb
  rw [toT_abs ea] at i
  have i := importEnds_mono (K - M) _ _ _ _ i
  rw [show M + (K - M) = K by omega] at i
  have t := topT_of ee
  rw [toT_abs ed] at t
  have t := topRun_mono (K - N) _ _ _ _ t
  rw [show N + (K - N) = K by omega] at t
  obtain ⟨k1, k2⟩ := Prod.mk.inj e'
  obtain ⟨k2, k3⟩ := Prod.mk.inj k2
  obtain ⟨k1, k1'⟩ := Bool.and_eq_true_iff.mp k1
  unfold openEnds fencedOpening
  rw [i]
  show (((fenceModules? p sb.abs).bind (topFrom treeTable p w K))).map _ = _
  rw [ec]
  show ((topFrom treeTable p w K s₀')).map _ = _
  have tf : topFrom treeTable p w K s₀' = some s₁'.abs := by
    unfold topFrom
    rw [k1]
    dsimp only
    rw [t]
    show (match staticsOk (importedModules p.main.body) s₀'.heap s₁'.abs.heap && namesBound p s₁'.abs.heap && gensDone s₁'.abs && laidKept s₀'.heap s₁'.abs.heap with | true => _ | false => _) = _
    rw [k1']
  rw [tf]
  exact congrArg some (Prod.ext k2 (hy _ _ k3))
end T1
section oT2
noncomputable def TabsIn (h : Heap) : Prop := ∀ b, b < topN → ∃ o, h.get? b = some o ∧ (o.cls = .none → (∃ vs, o.data = .fields vs) → isCodeTable h b)
set_option backward.match.sparseCases false in
noncomputable def isFields : Data → Bool
  | .fields _ => true
  | _ => false
noncomputable def nearT (x : SharedT) (b : Nat) : Bool := (List.range 12).any fun d => ((getT x (b - 6 + d)).bind tabOf) == some b
noncomputable def tabsT (x : SharedT) : Bool := (List.range topN).all fun b => (getT x b).any fun o => !(o.cls == .none && isFields o.data) || nearT x b
theorem tabs_in {x : SharedT} (h : tabsT x = true) : TabsIn x.abs.heap := fun b hb => by
  have h := List.all_eq_true.mp h b (List.mem_range.mpr hb)
  obtain ⟨o, e, h⟩ := (Option.any_eq_true _ _).mp h
  refine ⟨o, getT_is e, fun hc hd => ?_⟩
  obtain ⟨vs, hd⟩ := hd
  rw [hc, hd] at h
  have h : nearT x b = true := h
  obtain ⟨d, _, h⟩ := List.any_eq_true.mp h
  obtain ⟨o', e', h⟩ := Option.bind_eq_some_iff.mp (eq_of_beq h)
  obtain ⟨h1, us, h2, h3⟩ := tabOf_is h
  exact ⟨_, o', us, getT_is e', h1, h2, h3⟩
noncomputable abbrev pw : Program := PySem.Challenge.pw_mq0401_01
noncomputable abbrev qSt (w : World) (p : Program) : StT := PySem.W.Fast.tw10156331382660048174 (PySem.W.Fast.tw11892475500146522536 PySem.W.Fast.tw14364793385576792824) p w
noncomputable abbrev qFn (p : Program) : Shared → Option Shared := PySem.W.Fast.tw14289696077712309145 p
noncomputable abbrev qSeen := PySem.W.Fast.tw4187177175401517315
theorem qSt_eq (w : World) : (fun p => stepT (denote treeTable) p w) = qSt w := by
  unfold qSt
  rw [← PySem.W.Fast.te10156331382660048174, ← PySem.W.Fast.te11892475500146522536, ← PySem.W.Fast.te14364793385576792824]
theorem qFn_eq : fenceModules? = qFn := PySem.W.Fast.te14289696077712309145
theorem qSeen_eq : openSeen = qSeen := PySem.W.Fast.te4187177175401517315
noncomputable def qv : Program := view pw [36]
noncomputable def lse : List Str := pw.boundNames.filter fun k => !(k == ("law" : Str))
noncomputable def kAt : List Addr := [3, 2, 4, 760, 732, 731, 597, 596, 120, 119, 93, 92, 94, 664, 350, 49, 48, 752, 768, 767, 761, 63, 62, 90, 89, 367, 366, 360, 374, 373, 381, 380, 543, 542, 536, 656, 655, 649, 671, 670, 663, 662, 693, 692, 700, 699, 722, 721, 729, 728, 744, 743, 737, 751, 750, 759, 758, 775, 774, 782, 781, 789, 788, 794, 793, 799, 798]
noncomputable def kTab : List Addr := [763, 58, 85, 362, 369, 376, 538, 651, 666, 658, 688, 695, 717, 724, 739, 746, 754, 770, 777, 784, 791, 796]
noncomputable def yt (w : World) : List (Option Obj) × List (Option Obj) × Bool := ((K01 w.params).map fun x => some x.2, kTab.map fun _ => some (X.tableObj #[]), true)
theorem t_all (w : World) : (allT (qSt w) (qFn pw) pw 4000 8000).map (fun x => ((x.1.heap.isNs mainGlobals && x.1.gens.size == 0) && (staticsOk (importedModules pw.main.body) x.1.heap x.2.abs.heap && namesBound pw x.2.abs.heap && gensDone x.2.abs && laidKept x.1.heap x.2.abs.heap),
      qSeen qv lse (importedModules pw.main.body) (fun _ => true) true x.2.abs, (kAt.map (getT x.2), kTab.map (getT x.2), tabsT x.2))) = some (true, openGood qv lse, yt w) := by kernel_rfl
end oT2
section oE1
noncomputable def KX (h0 h : Heap) : Prop := ∀ b o, h0.get? b = some o → h.get? b = some o ∨ ∃ vs more, b < topN ∧ o = X.tableObj vs ∧ h.get? b = some (X.tableObj (vs ++ more))
theorem KX.st {N : Nat} {F : List Addr} {h0 : Heap} {s s' : Shared} (x : KX h0 s.heap) (t : St N F s s') (hN : N = h0.objs.size) (hF : ∀ b ∈ F, h0.get? b = none) : KX h0 s'.heap := fun b o e => by
  have nb : b ∉ F := fun z => by rw [hF b z] at e; cases e
  have lt : b < N := hN ▸ Heap.lt_size e
  rcases x b o e with h | ⟨vs, more, h1, h2, h3⟩
  · have q := t.keep.off b o nb h
    generalize e' : s'.heap.get? b = r at q
    cases q with
    | same => exact .inl rfl
    | slots sl hb _ => exact absurd lt (Nat.not_lt.mpr hb)
    | tab vs more l _ q _ => exact .inr ⟨vs, more, l, q, rfl⟩
  · have q := t.keep.off b _ nb h3
    generalize e' : s'.heap.get? b = r at q
    cases q with
    | same => exact .inr ⟨vs, more, h1, h2, rfl⟩
    | slots sl _ hc => cases hc
    | tab vs' more' l _ q _ =>
      have : vs' = vs ++ more := by
        have := congrArg Obj.data q
        injection this with this; exact this.symm
      subst this
      exact .inr ⟨vs, more ++ more', h1, h2, by rw [Array.append_assoc]⟩
theorem KX.lam {h0 : Heap} {s s' : Shared} (x : KX h0 s.heap) (t : LamStep s s') (ht : h0.get? lamTab = some (X.tableObj #[])) : KX h0 s'.heap := fun b o e => by
  by_cases hb : b = lamTab
  · subst hb
    rw [ht] at e; cases e
    obtain ⟨more, h⟩ := t.tab
    exact .inr ⟨#[], more, by decide, rfl, by rw [h, Array.empty_append]⟩
  · rcases x b o e with h | ⟨vs, more, h1, h2, h3⟩
    · exact .inl (t.keep b o hb h)
    · exact .inr ⟨vs, more, h1, h2, t.keep b _ hb h3⟩
theorem oldK_of {h h' : Heap} (ht : TabsIn h) (k : KX h h') : OldK h h' := by
  refine ⟨fun b o e => ?_, fun b o e => ?_⟩
  · rcases k b o e with e' | ⟨vs, more, lt, q, e'⟩
    · exact .inl e'
    · obtain ⟨o', e1, e2⟩ := ht b lt
      rw [e] at e1; cases e1
      subst q
      exact .inr (.inl ⟨e2 rfl ⟨vs, rfl⟩, rfl, vs, more, rfl, e'⟩)
  · rcases k b o e with e' | ⟨vs, more, lt, q, e'⟩
    · exact ⟨_, e'⟩
    · exact ⟨_, e'⟩
theorem enter_top {W : Wd} {D : Nat} {f : Addr} {ps : List PV} {loc : List (Str × PV)} {names : List Str} {A : Around} {s : Shared} {vs : List Value} {binds : List (Str × Value)} {Q E : Value → Shared → Prop} (hN : W.N = s.heap.objs.size) (hd : defOk W.K f names = true) (hn : loc.map (·.1) = names) (lk : lowK W.K W.N = true) (lo : builtinsNs < W.N ∧ cStatics < W.N) (B : Base W.K W.N s.heap) (hA : A.frames = some []) (room : Room A (D + 1))
    (hb : runPure W.K 30 (bindArgs (fdOf W.K f) ⟨vs, []⟩) = some binds) (hbn : binds.map (·.1) = names) (hi : IsL [] [] s.heap (loc.map (·.2)) (binds.map (·.2)))
    (ht : s.heap.get? lamTab = some (X.tableObj #[])) (hrun : ∀ c : Fc, c.Ok → c.toWd = W → Room c.A.in1 D → c.env.scope = (fdOf W.K f).scope → c.env.code = (fdOf W.K f).code → ∀ (s : Shared) (Q : Flow → Shared → Prop) (E : Value → Shared → Prop), Inv c ⟨loc, []⟩ s → s.heap.get? lamTab = some (X.tableObj #[]) → (∀ s', LawRun c.N c.muts s s' → Q (.ret (.bool true)) s') → wpAny c.M c.A (execs (bodyOf (fdOf W.K f)) c.env) Q E s)
    (hq : ∀ s', KX s.heap s'.heap → Gn s.gens s'.gens → s'.os = s.os → Q (.bool true) s') : wpAny (model W.prog W.w) A (call (.ref f) vs) Q E s := by
  obtain ⟨h123, h4⟩ := Bool.and_eq_true_iff.mp hd
  obtain ⟨h12, h3⟩ := Bool.and_eq_true_iff.mp h123
  have di := defIs_of h12
  obtain ⟨oc, od, sl, hK⟩ := di.at_
  have ho := B.k _ _ hK
  refine wpAny_call ?_
  refine enter_def (binds := binds) (by have := room.depth; omega) ho rfl B.lim (codeRec_of B.k di.code) di.body (fun M A E Q q => runPure_sound B.k hb q) di.cell (fun x hx => beq_iff_eq.mp (List.all_eq_true.mp h4 x.1 (hbn ▸ List.mem_map_of_mem hx))) di.co di.gen di.kind fun h' F' k' => ?_
  have kk : Keep W.N [] s.heap h' := .of_all k'
  let c' : Fc := { prog := W.prog, w := W.w, K := W.K, N := W.N, A := A.deeper (callEnv (fdOf W.K f) s.heap.objs.size f), env := callEnv (fdOf W.K f) s.heap.objs.size f, T := [s.heap.objs.size], ρ := [], L := s.heap.objs.size }
  have ok' : c'.Ok := ⟨⟨fun b hb => hb, by show [s.heap.objs.size].Nodup; simp, fun b hb => by rcases List.mem_singleton.mp hb with rfl; exact Nat.le_of_eq hN⟩, di.kind, rfl, di.glb, di.blt, lk, lo⟩
  have fresh : s.heap.get? s.heap.objs.size = none := by
    cases q : s.heap.get? s.heap.objs.size with
    | none => rfl
    | some o => exact absurd (Heap.lt_size q) (Nat.lt_irrefl _)
  have I' : Inv c' ⟨loc, []⟩ { s with heap := h', toks := s.toks + binds.length } := by
    refine ⟨⟨⟨_, F', ?_⟩, fun k po e => by simp at e⟩, B.keep (T := []) lk (fun _ h => nomatch h) lo kk, fun b hb => ?_, ?_⟩
    · have z := loc_binds (hbn.trans hn.symm) (hi.more fresh) (hn ▸ nodupB_ok h3)
      exact fun x p e => let ⟨v, e1, e2⟩ := z x p e; ⟨v, e1, e2.keep (N := W.N) kk.all⟩
    · rcases List.mem_singleton.mp hb with rfl
      obtain ⟨o, e, _⟩ := F'.cls; exact ⟨o, e⟩
    · refine ⟨[callEnv (fdOf W.K f) s.heap.objs.size f], by show (A.frames.map _) = _; rw [hA]; rfl, fun env he => ?_⟩
      rcases List.mem_singleton.mp he with rfl
      exact ⟨by show (fdOf W.K f).scope.kind ≠ _; rw [di.kind]; decide, _, _, rfl, Nat.le_of_eq hN, F'⟩
  refine hrun c' ok' rfl room.deeper rfl rfl _ _ _ I' (k' _ _ ht) fun s' L => ?_
  obtain ⟨s1, s2, t1, l1, t2⟩ := L.go
  have hF : ∀ b ∈ c'.muts, s.heap.get? b = none := fun b hb => by rcases List.mem_singleton.mp hb with rfl; exact fresh
  have k0 : KX s.heap h' := fun b o e => .inl (k' b o e)
  have k1 : KX s.heap s1.heap := KX.st (s := { s with heap := h', toks := s.toks + binds.length }) k0 t1 hN hF
  exact hq s' ((k1.lam l1 ht).st t2 hN hF) (Gn.trans t1.gens (Gn.trans (.of_eq l1.gens) t2.gens)) (t2.os.trans (l1.os.trans t1.os))
end oE1
section oE2
noncomputable abbrev YPl (w : World) (h : Heap) : Prop := (K01 w.params).In h ∧ (∀ a ∈ kTab, h.get? a = some (X.tableObj #[])) ∧ TabsIn h
noncomputable def yF (s : Shared) : List (Option Obj) × Prop := (kAt.map s.heap.get?, (∀ a ∈ kTab, s.heap.get? a = some (X.tableObj #[])) ∧ TabsIn s.heap)
noncomputable def yA (w : World) : List (Option Obj) × Prop := ((K01 w.params).map fun x => some x.2, True)
theorem gets_of {x : SharedT} : ∀ {as : List Addr} {l : List (Addr × Obj)}, as.map (getT x) = l.map (fun p => some p.2) → as.map x.abs.heap.get? = l.map fun p => some p.2
  | [], l, h => by
    cases l with
    | nil => rfl
    | cons _ _ => cases h
  | a :: as, l, h => by
    cases l with
    | nil => cases h
    | cons p l =>
      simp only [List.map_cons, List.cons.injEq] at h ⊢
      exact ⟨getT_is h.1, gets_of h.2⟩
theorem y_of (x : SharedT) (w : World) (h : (kAt.map (getT x), kTab.map (getT x), tabsT x) = yt w) : yF x.abs = yA w := by
  obtain ⟨h1, h2⟩ := Prod.mk.inj h
  obtain ⟨h2, h3⟩ := Prod.mk.inj h2
  exact Prod.ext (gets_of h1) (eq_true ⟨fun a ha => getT_is (List.map_inj_left.mp h2 a ha), tabs_in h3⟩)
theorem k_at (P : Params) : kAt = (K01 P).map (·.1) := by kernel_rfl
theorem y_says (w : World) (s : Shared) (h : yF s = yA w) : YPl w s.heap := by
  obtain ⟨h1, h2⟩ := Prod.mk.inj h
  exact ⟨Frag.in_of (k_at _) h1, of_eq_true h2⟩
theorem y_keeps (w : World) (h h' : Heap) (y : YPl w h) (k : ∀ b o, h.get? b = some o → h'.get? b = some o) : YPl w h' :=
  ⟨y.1.keeps k, fun a ha => k _ _ (y.2.1 a ha), fun b hb => let ⟨o, e, q⟩ := y.2.2 b hb; ⟨o, k b o e, fun h1 h2 => let ⟨c, oc, vs, e1, e2, e3, e4⟩ := q h1 h2; ⟨c, oc, vs, k _ _ e1, e2, e3, e4⟩⟩⟩
theorem left : LeftO pw qv lse (fun _ => true) yF yA 8000 :=
  left_of (M := 4000) (N := 8000) (by decide) (by decide) y_of fun w => by
    have h := t_all w
    rw [← qSt_eq, ← qFn_eq, ← qSeen_eq] at h
    exact h
noncomputable abbrev rw : OpenRow := PySem.Challenge.rw_mq0401_01.row
set_option backward.match.sparseCases false in
noncomputable def nsData (x : Str) : Data → Option Value
  | .dict es _ => nsFind es x
  | _ => none
theorem law_at (P : Params) : ((K01 P).lookup 3).bind (fun o => nsData "law" o.data) = some (.ref 799) := by kernel_rfl
theorem law_is {P : Params} {h : Heap} {mg : Str → Option Value} (hg : h.Ns mainGlobals mg) (K : (K01 P).In h) : mg ("law" : Str) = some (.ref 799) := by
  obtain ⟨o, es, ep, ho, hd, _, hf⟩ := hg
  obtain ⟨o', e, q⟩ := ob (law_at P)
  have := K _ _ e
  rw [show (3 : Addr) = mainGlobals from rfl, ho] at this
  cases this
  rw [hd] at q
  exact (hf _).symm.trans q
theorem low_up {K : Frag} {N N' : Nat} (h : lowK K N = true) (hN : N ≤ N') : lowK K N' = true := by
  refine List.all_eq_true.mpr fun p hp => ?_
  have h := List.all_eq_true.mp h p hp
  unfold lowP at h ⊢
  obtain ⟨h1, h2⟩ := Bool.and_eq_true_iff.mp h
  obtain ⟨h2, h3⟩ := Bool.and_eq_true_iff.mp h2
  refine Bool.and_eq_true_iff.mpr ⟨decide_eq_true (Nat.lt_of_lt_of_le (of_decide_eq_true h1) hN), Bool.and_eq_true_iff.mpr ⟨h2, ?_⟩⟩
  cases e : tabOf p.2 with
  | none => rfl
  | some P =>
    rw [e] at h3
    obtain ⟨a, b⟩ := Bool.and_eq_true_iff.mp h3
    exact Bool.and_eq_true_iff.mpr ⟨decide_eq_true (Nat.lt_of_lt_of_le (of_decide_eq_true a) hN), b⟩
noncomputable def tabAll (K : Frag) : List Addr := K.filterMap fun p => tabOf p.2
theorem tab_all (P : Params) : tabAll (K01 P) = kTab := by kernel_rfl
theorem args_of {args : List WData} (h : rw.toRowW.claim.pre args = true) : ∃ ns : List Int, ns.length ≤ 63 ∧ args = [.list (ns.map .int)] := by
  obtain ⟨h1, h2⟩ := Bool.and_eq_true_iff.mp h
  cases args with
  | nil => cases h1
  | cons x xs =>
    obtain ⟨hx, hr⟩ := Bool.and_eq_true_iff.mp (show (WShape.has [] x (.list .int) && WShape.hasAll [] xs []) = true from h1)
    cases xs with
    | cons y ys => cases hr
    | nil =>
      obtain ⟨ds, rfl, hd⟩ := hasW_list hx
      obtain ⟨ns, rfl⟩ := items_int hd
      refine ⟨ns, ?_, rfl⟩
      have h2 : WTm.holds [] (.and (.not (.lt (.lit (.int 63)) (.len (.arg 0)))) (.lit (.bool true))) { args := [.list (ns.map .int)] } = true := h2
      by_cases q : (63 : Int) < ((ns.map WData.int).length : Int)
      · have h2 : WTm.holds [] (.and (.not (.lit (.bool (decide ((63 : Int) < ((ns.map WData.int).length : Int)))))) (.lit (.bool true))) { args := [] } = true := h2
        rw [decide_eq_true q] at h2
        exact nof h2
      · rw [List.length_map] at q
        exact Int.ofNat_le.mp (Int.not_lt.mp q)
theorem int1_is {R : WRecords} {cl : Str → Option Addr} {h : Heap} {n : Int} {v : Value} {as : List Addr} (x : ReadsW R cl h v (.int n) as) : Is [] [] h (.i n) v := by
  obtain ⟨t, rfl, _⟩ := readsW_int_inv x
  exact .i _ _
theorem ints_is {R : WRecords} {cl : Str → Option Addr} {h : Heap} {ns : List Int} : ∀ {vs : List Value} {as : List Addr}, ReadsAllW R cl h vs (ns.map .int) as → IsL [] [] h (iS ns) vs := by
  induction ns with
  | nil => intro vs as h; obtain ⟨rfl, _⟩ := readsAllW_nil_inv h; exact .nil
  | cons n r ih => intro vs as h; obtain ⟨v, vs, _, _, rfl, _, a, b⟩ := readsAllW_cons_inv h; exact .cons (int1_is a) (ih b)
theorem low_ok' (P : Params) : lowK (K01 P) 800 = true := by kernel_rfl
theorem base_of_top {w : World} {s : Shared} {mb : Str → Option Value} (y : YPl w s.heap) (hb : s.heap.Ns builtinsNs mb) (hx : ∀ x : Str, x ≠ "__name__" → mb x = bootBuiltins x) (hl : s.heap.NoLimit) : Base (K01 w.params) s.heap.objs.size s.heap := by
  refine ⟨y.1, ⟨mb, hb, hx⟩, hl, fun a o P e t => ⟨#[], y.2.1 P ?_, trivial⟩⟩
  rw [← tab_all w.params]
  exact List.mem_filterMap.mpr ⟨(a, o), mem_lookup e, t⟩
theorem law_walk {d : DefRec} {kwd : List (Str × Expr)} (hn : d.name = ("law" : Str)) : WalkO qv lse (fun _ _ => True) YPl rw.toRowW d kwd fun f vs => PySem.call f vs := by
  intro w s₀ s₁ mg mb G Y a o pm cd doc dV kV ho hd hcd hD hmg hg args vals as hpre hlay hrd hwl hlo
  obtain ⟨ns, hz, rfl⟩ := args_of hpre
  have ha := law_is G.T.g Y.1
  rw [hn] at hmg
  have ea : a = 799 := by rw [ha] at hmg; cases hmg; rfl
  subst ea
  obtain ⟨v1, vs1, _, _, rfl, _, r1, r2⟩ := readsAllW_cons_inv hrd
  obtain ⟨rfl, _⟩ := readsAllW_nil_inv r2
  obtain ⟨_, _, _, rfl, ⟨_, e1, e2, _, e3⟩, e4, _⟩ := readsW_list_inv r1
  have B := base_of_top Y G.T.b G.T.builtins G.T.nolimit
  have big : 800 ≤ s₁.heap.objs.size := by
    obtain ⟨o', e', _⟩ := Y.2.2 799 (by decide)
    exact Heap.lt_size e'
  let W : Wn := ⟨w, s₁.heap.objs.size⟩
  have ht : s₁.heap.get? lamTab = some (X.tableObj #[]) := Y.2.1 _ (by decide)
  refine enter_top (W := WW W) (D := 60) (ps := []) (loc := [("script", .l (iS ns))]) rfl (la_def W) rfl (low_up (low_ok' _) big) ⟨Nat.lt_of_lt_of_le (by decide) big, Nat.lt_of_lt_of_le (by decide) big⟩ B rfl ⟨by decide, by decide, rfl⟩ (la_bind W _) rfl (.cons (.l (fun z => nomatch z) e1 e2 e3 (ints_is e4)) .nil) ht
    (fun c ok e room hs hcd s Q E I ht k => law_wp (S := ns) ⟨ok, e, room, hs, hcd.trans (la_code W), by rw [show c.N = _ from congrArg Wd.N e]; exact Nat.lt_of_lt_of_le (by decide) big⟩ (by omega) I ht k) fun s' k gn os => ?_
  refine ⟨.inl ⟨_, .bool true, [], rfl, fun _ => rfl, .bool true, by wrow_post, fun _ => ⟨List.nodup_nil, fun _ hm => (nomatch hm)⟩⟩, oldK_of Y.2.2 k, os, gn.bare ?_⟩
  rw [hg]
  exact AllBare.empty
end oE2
section oE3
theorem def_some : (defOf qv rw.name).isSome = true := by kernel_rfl
theorem def_the : rw.prog.theDef rw.name = (defOf qv rw.name).map fun x => (x.1.params, x.1.body, x.1.scope) := by kernel_rfl
theorem def_kw : ((defOf qv rw.name).bind fun x => kwWritten? x.1.params.kwonlyargs x.1.params.kw_defaults) = (defOf qv rw.name).map (·.2) := by kernel_rfl
theorem law_ok : (chainsOk qv && opensWell rw.prog && (frees rw.toRowW && rw.within.isEmpty)) = true := by kernel_rfl
theorem law_bare : rw.prog.bare := ⟨rfl, rfl, rfl, rfl, rfl, by kernel_rfl⟩
theorem law_holds (said : rw.wellSaid = true) : rw.Holds := by
  obtain ⟨⟨d, kwd⟩, hd⟩ := Option.isSome_iff_exists.mp def_some
  have h1 := def_the
  have h2 := def_kw
  rw [hd] at h1 h2
  have hw : rw.toRowW.promised := ⟨[.list [.int 3, .int 1]], by decide +kernel, by decide +kernel⟩
  exact holds_open (r := rw) (q := qv) (loose := lse) (Xt := fun _ => true) (XP := fun _ _ => True) (Yf := yF) (Ya := yA) (YP := YPl) (N := 8000) left (fun w s h => y_says w s h) (fun w h h' => y_keeps w h h') (fun _ _ => trivial) (fun _ _ _ _ _ => trivial) hd h1 h2 (fun s _ => recFacts_nil rfl) rfl said law_ok law_bare hw (law_walk (defOf_name hd))
theorem said3 : PySem.W.Fast.tw12908688711261696721 (PySem.W.Fast.tw2368527892694137696 PySem.Challenge.rw_mq0401_01).prog = true := by
  unfold PySem.W.Fast.tw12908688711261696721
  refine look_both (look_both (look_both (look_both (look_both ?_ ?_) ?_) ?_) ?_) ?_
  all_goals decide +kernel
theorem said2 : PySem.W.Fast.tw2436336058641802641 (PySem.W.Fast.tw2368527892694137696 PySem.Challenge.rw_mq0401_01) = true := by
  unfold PySem.W.Fast.tw2436336058641802641
  refine look_both (look_both (look_both (look_both (look_both (look_both ?_ ?_) ?_) ?_) ?_) ?_) ?_
  · refine look_both (look_both (look_both (look_both (look_both (look_both (look_both said3 ?_) ?_) ?_) ?_) ?_) ?_) ?_
    all_goals decide +kernel
  all_goals decide +kernel
theorem said1 : PySem.W.Fast.tw17960256430627541270 (PySem.W.Fast.tw2368527892694137696 PySem.Challenge.rw_mq0401_01) = true := by
  unfold PySem.W.Fast.tw17960256430627541270
  refine look_both (look_both said2 ?_) ?_
  all_goals decide +kernel
theorem law_saidQ : PySem.W.Fast.tw9446332074065402090 PySem.Challenge.rw_mq0401_01 = true := by
  unfold PySem.W.Fast.tw9446332074065402090
  refine look_both (look_both (look_both (look_both (look_both (look_both ?_ ?_) ?_) ?_) ?_) ?_) ?_
  · refine look_both (look_both (look_both (look_both (look_both (look_both (look_both (look_both (look_both (look_both (look_both (look_both said1 ?_) ?_) ?_) ?_) ?_) ?_) ?_) ?_) ?_) ?_) ?_) ?_
    all_goals decide +kernel
  all_goals decide +kernel
theorem law_said : PySem.Challenge.rw_mq0401_01.wellSaid = true := (congrFun PySem.W.Fast.te9446332074065402090 _).trans law_saidQ
end oE3
end Mine
theorem PySem.Challenge.cw_mq0401_01_holds : PySem.Challenge.rw_mq0401_01.Holds :=
  holds_law Mine.law_said Mine.law_holds
