import PyProof.Rows.All
import Wide.All
import OpenK.AllK
import Wide.FinOn
import PySem.Challenge.RW_pe0188_01
set_option Elab.async false
set_option linter.unusedVariables false
set_option linter.unusedSimpArgs false
set_option genSizeOf false
set_option genInjectivity false

noncomputable section -- MA
open PySem PyProof.Rows
set_option maxRecDepth 100000
namespace Mine

noncomputable abbrev PG : Program := PySem.Challenge.pw_pe0188_01

inductive D where
  | none
  | bool (b : Bool)
  | int (i : Int)
  | str (x : Str)
  | tup (l : List D)
  | lst (l : List D)
  | dct (l : List (Str × D))
  | inst (c : Addr) (l : List (Str × D))
  | adr (a : Addr)

noncomputable abbrev tupO (vs : Array Value) (n : Nat) : Obj := { cls := .type "tuple", data := .seq vs n }
noncomputable abbrev lstO (vs : Array Value) (n : Nat) : Obj := { cls := .type "list", data := .seq vs n }

mutual
inductive Rp (w : World) (μ : Addr → Prop) (h : Heap) : Value → D → Prop
  | none : Rp w μ h .none .none
  | bool (b : Bool) : Rp w μ h (.bool b) (.bool b)
  | int (i : Int) (t : Tok) : Rp w μ h (.int i t) (.int i)
  | str (x : Str) (t : Tok) : Rp w μ h (.str x t) (.str x)
  | tup {a : Addr} {vs : Array Value} {n : Nat} {ds : List D} : ¬ μ a → h.get? a = some (tupO vs n) → RpL w μ h vs.toList ds → Rp w μ h (.ref a) (.tup ds)
  | lst {a : Addr} {vs : Array Value} {n : Nat} {ds : List D} : ¬ μ a → h.get? a = some (lstO vs n) → RpL w μ h vs.toList ds → Rp w μ h (.ref a) (.lst ds)
  | dct {a : Addr} {kvs : List (Str × Value)} {ds : List (Str × D)} : ¬ μ a → (a == sysModules) = false → h.DictOf (strKind PG w) a kvs → RpK w μ h kvs ds → Rp w μ h (.ref a) (.dct ds)
  | inst {c a d : Addr} {o : Obj} {kvs : List (Str × Value)} {ds : List (Str × D)} : ¬ μ a → ¬ μ d → d ≠ a → h.get? a = some o → (o.cls = .ref c ∧ o.dict = some d ∧ ∀ k, o.data ≠ .cls k) → h.Ns1 d (valueAt kvs) →
      RpK w μ h kvs ds → Rp w μ h (.ref a) (.inst c ds)
  | adr (a : Addr) : Rp w μ h (.ref a) (.adr a)
inductive RpL (w : World) (μ : Addr → Prop) (h : Heap) : List Value → List D → Prop
  | nil : RpL w μ h [] []
  | cons {v : Value} {vs : List Value} {d : D} {ds : List D} : Rp w μ h v d → RpL w μ h vs ds → RpL w μ h (v :: vs) (d :: ds)
inductive RpK (w : World) (μ : Addr → Prop) (h : Heap) : List (Str × Value) → List (Str × D) → Prop
  | nil : RpK w μ h [] []
  | cons {x : Str} {v : Value} {kvs : List (Str × Value)} {d : D} {ds : List (Str × D)} : Rp w μ h v d → RpK w μ h kvs ds → RpK w μ h ((x, v) :: kvs) ((x, d) :: ds)
end

theorem map_get {α β : Type} {f : α → β} {l : List α} {i : Nat} {d : β} (h : (l.map f)[i]? = some d) : ∃ a, l[i]? = some a ∧ d = f a := by
  rw [List.getElem?_map] at h
  obtain ⟨a, h1, h2⟩ := Option.map_eq_some_iff.mp h
  exact ⟨a, h1, h2.symm⟩
theorem fa_nil {α : Type} {P : α → Prop} : ∀ b ∈ ([] : List α), P b := fun _ h => nomatch h
theorem fa_cons {α : Type} {P : α → Prop} {a : α} {l : List α} (h : P a) (t : ∀ b ∈ l, P b) : ∀ b ∈ a :: l, P b := fun b hb => (List.mem_cons.mp hb).elim (fun e => e ▸ h) (t b)
section
variable {w : World} {μ : Addr → Prop} {h : Heap}
theorem RpL.elimCons {d : D} {ds : List D} {P : (vs : List Value) → RpL w μ h vs (d :: ds) → Prop} (cons : ∀ {v : Value} {vs : List Value} (a : Rp w μ h v d) (b : RpL w μ h vs ds), P (v :: vs) (.cons a b)) : ∀ {vs : List Value} (r : RpL w μ h vs (d :: ds)), P vs r
  | _, .cons a b => cons a b
theorem Rp.elimInt {i : Int} {P : (v : Value) → Rp w μ h v (.int i) → Prop} (int : ∀ t, P (.int i t) (.int i t)) : ∀ {v : Value} (r : Rp w μ h v (.int i)), P v r
  | _, .int _ t => int t
theorem Rp.elimStr {x : Str} {P : (v : Value) → Rp w μ h v (.str x) → Prop} (str : ∀ t, P (.str x t) (.str x t)) : ∀ {v : Value} (r : Rp w μ h v (.str x)), P v r
  | _, .str _ t => str t
theorem Rp.elimBool {b : Bool} {P : (v : Value) → Rp w μ h v (.bool b) → Prop} (bool : P (.bool b) (.bool b)) : ∀ {v : Value} (r : Rp w μ h v (.bool b)), P v r
  | _, .bool _ => bool
theorem Rp.elimTup {ds : List D} {P : (v : Value) → Rp w μ h v (.tup ds) → Prop} (tup : ∀ {a : Addr} {vs : Array Value} {n : Nat} (ha : ¬ μ a) (e : h.get? a = some (tupO vs n)) (r : RpL w μ h vs.toList ds), P (.ref a) (.tup ha e r)) : ∀ {v : Value} (r : Rp w μ h v (.tup ds)), P v r
  | _, .tup ha e r => tup ha e r
theorem Rp.elimLst {ds : List D} {P : (v : Value) → Rp w μ h v (.lst ds) → Prop} (lst : ∀ {a : Addr} {vs : Array Value} {n : Nat} (ha : ¬ μ a) (e : h.get? a = some (lstO vs n)) (r : RpL w μ h vs.toList ds), P (.ref a) (.lst ha e r)) : ∀ {v : Value} (r : Rp w μ h v (.lst ds)), P v r
  | _, .lst ha e r => lst ha e r
theorem Rp.elimDct {ds : List (Str × D)} {P : (v : Value) → Rp w μ h v (.dct ds) → Prop} (dct : ∀ {a : Addr} {kvs : List (Str × Value)} (ha : ¬ μ a) (hS : (a == sysModules) = false) (e : h.DictOf (strKind PG w) a kvs) (r : RpK w μ h kvs ds), P (.ref a) (.dct ha hS e r)) : ∀ {v : Value} (r : Rp w μ h v (.dct ds)), P v r
  | _, .dct ha hS e r => dct ha hS e r
end

section
variable {w : World} {μ μ' : Addr → Prop} {h h' : Heap}

mutual
theorem Rp.mvv (hμ : ∀ a o, h.get? a = some o → ¬ μ a → ¬ μ' a) (hk : ∀ b o, ¬ μ b → h.get? b = some o → h'.get? b = some o) : ∀ {v : Value} {d : D}, Rp w μ h v d → Rp w μ' h' v d
  | _, _, .none => .none
  | _, _, .bool b => .bool b
  | _, _, .int i t => .int i t
  | _, _, .str x t => .str x t
  | _, _, .tup a e r => .tup (hμ _ _ e a) (hk _ _ a e) (RpL.mvv hμ hk r)
  | _, _, .lst a e r => .lst (hμ _ _ e a) (hk _ _ a e) (RpL.mvv hμ hk r)
  | _, _, .dct a s e r => .dct (e.elim fun o q => hμ _ o q.choose_spec.choose_spec.1 a) s (e.elim fun o q => ⟨o, _, _, hk _ _ a q.choose_spec.choose_spec.1, q.choose_spec.choose_spec.2⟩) (RpK.mvv hμ hk r)
  | _, _, .inst a d q e o n r => .inst (hμ _ _ e a) (n.elim fun o q => hμ _ o q.choose_spec.choose_spec.1 d) q (hk _ _ a e) o (n.elim fun o q => ⟨o, _, _, hk _ _ d q.choose_spec.choose_spec.1, q.choose_spec.choose_spec.2⟩) (RpK.mvv hμ hk r)
  | _, _, .adr a => .adr a
theorem RpL.mvv (hμ : ∀ a o, h.get? a = some o → ¬ μ a → ¬ μ' a) (hk : ∀ b o, ¬ μ b → h.get? b = some o → h'.get? b = some o) : ∀ {vs : List Value} {ds : List D}, RpL w μ h vs ds → RpL w μ' h' vs ds
  | _, _, .nil => .nil
  | _, _, .cons r q => .cons (Rp.mvv hμ hk r) (RpL.mvv hμ hk q)
theorem RpK.mvv (hμ : ∀ a o, h.get? a = some o → ¬ μ a → ¬ μ' a) (hk : ∀ b o, ¬ μ b → h.get? b = some o → h'.get? b = some o) : ∀ {vs : List (Str × Value)} {ds : List (Str × D)}, RpK w μ h vs ds → RpK w μ' h' vs ds
  | _, _, .nil => .nil
  | _, _, .cons r q => .cons (Rp.mvv hμ hk r) (RpK.mvv hμ hk q)
end
theorem Rp.keep (hμ : ∀ a, ¬ μ a → ¬ μ' a) (hk : ∀ b o, ¬ μ b → h.get? b = some o → h'.get? b = some o) {v : Value} {d : D} (r : Rp w μ h v d) : Rp w μ' h' v d := r.mvv (fun a _ _ => hμ a) hk
theorem Rp.grow (hμ : ∀ a o, h.get? a = some o → ¬ μ a → ¬ μ' a) {v : Value} {d : D} (r : Rp w μ h v d) : Rp w μ' h v d := r.mvv hμ fun _ _ _ e => e
theorem RpL.keep (hμ : ∀ a, ¬ μ a → ¬ μ' a) (hk : ∀ b o, ¬ μ b → h.get? b = some o → h'.get? b = some o) {v : List Value} {d : List D} (r : RpL w μ h v d) : RpL w μ' h' v d := r.mvv (fun a _ _ => hμ a) hk
theorem RpL.grow (hμ : ∀ a o, h.get? a = some o → ¬ μ a → ¬ μ' a) {v : List Value} {d : List D} (r : RpL w μ h v d) : RpL w μ' h v d := r.mvv hμ fun _ _ _ e => e
theorem RpK.keep (hμ : ∀ a, ¬ μ a → ¬ μ' a) (hk : ∀ b o, ¬ μ b → h.get? b = some o → h'.get? b = some o) {v : List (Str × Value)} {d : List (Str × D)} (r : RpK w μ h v d) : RpK w μ' h' v d := r.mvv (fun a _ _ => hμ a) hk
theorem RpK.grow (hμ : ∀ a o, h.get? a = some o → ¬ μ a → ¬ μ' a) {v : List (Str × Value)} {d : List (Str × D)} (r : RpK w μ h v d) : RpK w μ' h v d := r.mvv hμ fun _ _ _ e => e

theorem RpL.length {vs : List Value} {ds : List D} (r : RpL w μ h vs ds) : vs.length = ds.length := by
  induction ds generalizing vs with
  | nil => cases r; rfl
  | cons d ds ih => cases r using RpL.elimCons with | cons _ q => simp [ih q]
theorem RpK.length {vs : List (Str × Value)} {ds : List (Str × D)} (r : RpK w μ h vs ds) : vs.length = ds.length := by
  induction ds generalizing vs with
  | nil => cases r; rfl
  | cons d ds ih => cases r with | cons _ q => simp [ih q]
theorem RpL.get {vs : List Value} {ds : List D} (r : RpL w μ h vs ds) {i : Nat} {d : D} (e : ds[i]? = some d) : ∃ v, vs[i]? = some v ∧ Rp w μ h v d := by
  induction ds generalizing vs i with
  | nil => simp at e
  | cons x ds ih =>
    cases r using RpL.elimCons with
    | @cons v vs a q =>
      cases i with
      | zero => simp at e; subst e; exact ⟨v, rfl, a⟩
      | succ i => simp at e; obtain ⟨v', h1, h2⟩ := ih q e; exact ⟨v', by simpa using h1, h2⟩
theorem RpL.getV {vs : List Value} {ds : List D} (r : RpL w μ h vs ds) {i : Nat} {v : Value} (e : vs[i]? = some v) : ∃ d, ds[i]? = some d ∧ Rp w μ h v d := by
  induction ds generalizing vs i with
  | nil => cases r; simp at e
  | cons x ds ih =>
    cases r using RpL.elimCons with
    | @cons v' vs a q =>
      cases i with
      | zero => simp at e; subst e; exact ⟨x, rfl, a⟩
      | succ i => simp at e; obtain ⟨d', h1, h2⟩ := ih q e; exact ⟨d', by simpa using h1, h2⟩
theorem RpL.append {vs us : List Value} {ds es : List D} (r : RpL w μ h vs ds) (q : RpL w μ h us es) : RpL w μ h (vs ++ us) (ds ++ es) := by
  induction ds generalizing vs with
  | nil => cases r; exact q
  | cons d ds ih => cases r using RpL.elimCons with | cons a b => exact .cons a (ih b)
theorem RpL.take {vs : List Value} {ds : List D} (r : RpL w μ h vs ds) (n : Nat) : RpL w μ h (vs.take n) (ds.take n) := by
  induction ds generalizing vs n with
  | nil => cases r; simp; exact .nil
  | cons d ds ih => cases r using RpL.elimCons with
    | cons a b => cases n with
      | zero => simp; exact .nil
      | succ n => simp; exact .cons a (ih b n)
theorem RpL.drop {vs : List Value} {ds : List D} (r : RpL w μ h vs ds) (n : Nat) : RpL w μ h (vs.drop n) (ds.drop n) := by
  induction ds generalizing vs n with
  | nil => cases r; simp; exact .nil
  | cons d ds ih => cases r using RpL.elimCons with
    | cons a b => cases n with
      | zero => simp; exact .cons a b
      | succ n => simp; exact ih b n
theorem RpK.keys {vs : List (Str × Value)} {ds : List (Str × D)} (r : RpK w μ h vs ds) : vs.map (·.1) = ds.map (·.1) := by
  induction ds generalizing vs with
  | nil => cases r; rfl
  | cons d ds ih => cases r with | cons a b => simp [ih b]
end

noncomputable def lookD (l : List (Str × D)) (k : Str) : Option D := (l.find? fun kv => kv.1 = k).map (·.2)
noncomputable def putD (l : List (Str × D)) (k : Str) (d : D) : List (Str × D) :=
  if l.any (fun kv => kv.1 = k) then l.map (fun kv => if kv.1 = k then (kv.1, d) else kv) else l ++ [(k, d)]

section
variable {w : World} {μ : Addr → Prop} {h : Heap}
theorem RpK.look {vs : List (Str × Value)} {ds : List (Str × D)} (r : RpK w μ h vs ds) {k : Str} {d : D} (e : lookD ds k = some d) : ∃ v, valueAt vs k = some v ∧ Rp w μ h v d := by
  induction ds generalizing vs with
  | nil => simp [lookD] at e
  | cons x ds ih =>
    cases r with
    | @cons y v vs d' _ a q =>
      unfold lookD at e
      unfold valueAt
      rw [List.find?_cons] at e ⊢
      by_cases hk : y = k
      · simp only [hk, decide_true] at e ⊢
        simp at e; subst e; exact ⟨v, rfl, a⟩
      · simp only [hk, decide_false] at e ⊢
        exact ih q e
theorem RpK.lookNone {vs : List (Str × Value)} {ds : List (Str × D)} (r : RpK w μ h vs ds) {k : Str} (e : lookD ds k = none) : valueAt vs k = none := by
  induction ds generalizing vs with
  | nil => cases r; rfl
  | cons x ds ih =>
    cases r with
    | @cons y v vs d' _ a q =>
      unfold lookD at e
      unfold valueAt
      rw [List.find?_cons] at e ⊢
      by_cases hk : y = k
      · simp only [hk, decide_true] at e; simp at e
      · simp only [hk, decide_false] at e ⊢
        exact ih q e
theorem RpK.any {vs : List (Str × Value)} {ds : List (Str × D)} (r : RpK w μ h vs ds) (k : Str) : vs.any (fun kv => decide (kv.1 = k)) = ds.any (fun kv => decide (kv.1 = k)) := by
  induction ds generalizing vs with
  | nil => cases r; rfl
  | cons x ds ih => cases r with | cons a q => simp only [List.any_cons, ih q]
theorem RpK.append {vs us : List (Str × Value)} {ds es : List (Str × D)} (r : RpK w μ h vs ds) (q : RpK w μ h us es) : RpK w μ h (vs ++ us) (ds ++ es) := by
  induction ds generalizing vs with
  | nil => cases r; exact q
  | cons d ds ih => cases r with | cons a b => exact .cons a (ih b)
theorem RpK.mapPut {vs : List (Str × Value)} {ds : List (Str × D)} (r : RpK w μ h vs ds) (k : Str) {v : Value} {d : D} (hv : Rp w μ h v d) :
    RpK w μ h (vs.map fun kv => if kv.1 = k then (kv.1, v) else kv) (ds.map fun kv => if kv.1 = k then (kv.1, d) else kv) := by
  induction ds generalizing vs with
  | nil => cases r; exact .nil
  | cons x ds ih =>
    cases r with
    | @cons y v' vs d' _ a q =>
      simp only [List.map_cons]
      by_cases hk : y = k
      · simp only [hk, if_true]; exact .cons hv (ih q)
      · simp only [hk, if_false]; exact .cons a (ih q)
theorem RpK.put {vs : List (Str × Value)} {ds : List (Str × D)} (r : RpK w μ h vs ds) (k : Str) {v : Value} {d : D} (hv : Rp w μ h v d) : RpK w μ h (stored vs k v) (putD ds k d) := by
  unfold stored putD
  rw [r.any k]
  split
  · exact r.mapPut k hv
  · exact r.append (.cons hv .nil)
end

end Mine
end

noncomputable section -- NA
open PySem PyProof.Rows
set_option maxRecDepth 100000
namespace Mine

noncomputable def callNext (M : Model) (Γ : Ctx) (p : Pos) (h : Option Value) (g : Bool) (l : List Value) (k : Result → Sem Fin) (e₁ : End) (s₁ : Shared) (e : End) (s' : Shared) : Prop := match e₁ with
  | .ret r => Runs M Γ p (k r) [] s₁ e s'
  | .susp v g₀ l₀ k₀ c₀ p₀ fs => e = .susp v g₀ l₀ k₀ c₀ p₀ (fs ++ [.ret k h g l Γ.code p []]) ∧ s' = s₁
noncomputable def segNext (M : Model) (Γ : Ctx) (F : Frame) (fs : List Frame) (e₁ : End) (s₁ : Shared) (e : End) (s' : Shared) : Prop := match e₁ with
  | .ret r => (match F with
      | .ret k _ _ _ c₁ p₁ _ => Runs M (Γ.goto c₁) p₁ (k r) fs s₁ e s'
      | .gen g k _ c₁ p₁ => Runs M (Γ.goto c₁) p₁ (k (End.ret r).result) fs (s₁.setGen g .finished) e s')
  | .susp v g₀ l₀ k₀ c₀ p₀ fs₀ => (match splitAtGen (F :: fs) with
      | none => e = .susp v g₀ l₀ k₀ c₀ p₀ (fs₀ ++ F :: fs) ∧ s' = s₁
      | some (pre, (g, k, c₁, p₁), rest) => Runs M (Γ.goto c₁) p₁ (k (.yielded v)) rest (s₁.setGen g (End.susp v g₀ l₀ k₀ c₀ p₀ (fs₀ ++ pre)).genState) e s')
noncomputable def stepInv (M : Model) (Γ : Ctx) (p : Pos) (t : Sem Fin) (s : Shared) (e : End) (s' : Shared) : Prop := match t with
  | .pure (.done f) => e = .ret (.ok f) ∧ s' = s
  | .pure (.again c) => Runs M (Γ.goto c) p (M.den c) [] s e s'
  | .raise x => e = .ret (.error x) ∧ s' = s
  | .rule _ k => Runs M Γ p (k ()) [] s e s'
  | .at p' k => Runs M Γ p' (k ()) [] s e s'
  | .load a _ k => ∃ o, s.heap.get? a = some o ∧ Runs M Γ p (k o) [] s e s'
  | .update a _ f k => Runs M Γ p (k ()) [] { s with heap := s.heap.update a f } e s'
  | .loadIfAlive a k => Runs M Γ p (k (s.heap.get? a)) [] s e s'
  | .point _ k => Runs M Γ p (k ()) [] s e s'
  | .alloc o k => Runs M Γ p (k s.heap.objs.size) [] { s with heap := s.heap.push o } e s'
  | .fresh k => Runs M Γ p (k s.toks) [] { s with toks := s.toks + 1 } e s'
  | .ask k => Runs M Γ p (k ⟨M.prog, M.w.params⟩) [] s e s'
  | .choose src n k => Runs M Γ p (k (M.w.draws src (s.drawn.get src) % n)) [] { s with drawn := s.drawn.bump src } e s'
  | .os q _ k => Runs M Γ p (k (Os.step s.os q).2) [] { s with os := (Os.step s.os q).1 } e s'
  | .handled own k => Runs M Γ p (k (if own then Γ.own else Γ.handled)) [] s e s'
  | .genState g k => ∃ st, s.gens[g]? = some st ∧ Runs M Γ p (k st.seen) [] s e s'
  | .stack k => Runs M Γ p (k ((Γ.code, p) :: Γ.below)) [] s e s'
  | .thread k => Runs M Γ p (k 0) [] s e s'
  | .newGen c k => Runs M Γ p (k s.gens.size) [] { s with gens := s.gens.push (.fresh c) } e s'
  | .call c h g l k => ∃ e₁ s₁, Runs M (Γ.enter c h p) p (M.den c) [] s e₁ s₁ ∧ callNext M Γ p h g l k e₁ s₁ e s'
  | .yield v g l k => e = .susp v g l k Γ.code p [] ∧ s' = s
  | .resume g r _ k => ∃ res s₁, Wakes M Γ p g r s res s₁ ∧ Runs M Γ p (k res) [] s₁ e s'
  | _ => False
noncomputable def runsInv (M : Model) (Γ : Ctx) (p : Pos) (t : Sem Fin) (fs : List Frame) (s : Shared) (e : End) (s' : Shared) : Prop := match fs with
  | [] => stepInv M Γ p t s e s'
  | F :: fs => ∃ e₁ s₁, Runs M (Γ.over (F :: fs)) p t [] s e₁ s₁ ∧ segNext M Γ F fs e₁ s₁ e s'
noncomputable def wakesSt (M : Model) (Γ : Ctx) (p : Pos) (g : Nat) (r : Resume) (s : Shared) (res : GenResult) (s' : Shared) (st : GenState) : Prop := match st with
  | .fresh c => (match r with
      | .send .none => ∃ e₁ s₁, Runs M (Γ.wake c p) p (M.den c) [] (s.setGen g .running) e₁ s₁ ∧ e₁.quiet = true ∧ res = e₁.result ∧ s' = s₁.setGen g e₁.genState
      | .send _ => res = .justStarted ∧ s' = s
      | .throw x => res = .raised x ∧ s' = s.setGen g .finished)
  | .suspended k₀ _ c₀ p₀ fs _ => ∃ e₁ s₁, Runs M (Γ.wake c₀ p) p₀ (k₀ r) fs (s.setGen g .running) e₁ s₁ ∧ e₁.quiet = true ∧ res = e₁.result ∧ s' = s₁.setGen g e₁.genState
  | .running => res = .running ∧ s' = s
  | .finished => res = .finished ∧ s' = s
theorem wakes_eq {M : Model} {Γ : Ctx} {p : Pos} {g : Nat} {r : Resume} {s s' : Shared} {res : GenResult} {st : GenState} (e : s.gens[g]? = some st) : Wakes M Γ p g r s res s' = wakesSt M Γ p g r s res s' st := by
  unfold Wakes; rw [e]; cases st <;> rfl
theorem wakes_of {M : Model} {Γ : Ctx} {p : Pos} {g : Nat} {r : Resume} {s s' : Shared} {res : GenResult} {st : GenState} (e : s.gens[g]? = some st) (h : wakesSt M Γ p g r s res s' st) : Wakes M Γ p g r s res s' := by
  rw [wakes_eq e]; exact h
theorem wakes_to {M : Model} {Γ : Ctx} {p : Pos} {g : Nat} {r : Resume} {s s' : Shared} {res : GenResult} {st : GenState} (e : s.gens[g]? = some st) (h : Wakes M Γ p g r s res s') : wakesSt M Γ p g r s res s' st := by
  rw [← wakes_eq e]; exact h
theorem just_started {M : Model} {Γ : Ctx} {p : Pos} {g : Nat} {v : Value} {s s' : Shared} {res : GenResult} {c : Code} (n : v ≠ .none) : wakesSt M Γ p g (.send v) s res s' (.fresh c) = (res = .justStarted ∧ s' = s) := by
  cases v <;> first | exact absurd rfl n | rfl
theorem runs_inv {M : Model} {Γ : Ctx} {p : Pos} {t : Sem Fin} {fs : List Frame} {s s' : Shared} {e : End} (h : Runs M Γ p t fs s e s') : runsInv M Γ p t fs s e s' := by
  induction h with
  | done | raise | yield => exact ⟨rfl, rfl⟩
  | again _ h | rule h | «at» h | update _ h | loadIfAlive h | point h | alloc h | fresh h | ask h | choose _ h | os h | handled h | stack h | thread h | newGen h => exact h
  | load e h | genState e h => exact ⟨_, e, h⟩
  | call a b => exact ⟨_, _, a, b⟩
  | callSusp a => exact ⟨_, _, a, rfl, rfl⟩
  | resumeFresh e a q b => exact ⟨_, _, wakes_of e ⟨_, _, a, q, rfl, rfl⟩, b⟩
  | resumeSuspended e a q b => exact ⟨_, _, wakes_of e ⟨_, _, a, q, rfl, rfl⟩, b⟩
  | resumeJustStarted e n b => exact ⟨_, _, wakes_of e (by rw [just_started n]; exact ⟨rfl, rfl⟩), b⟩
  | resumeThrowFresh e b => exact ⟨_, _, wakes_of e ⟨rfl, rfl⟩, b⟩
  | resumeRunning e b => exact ⟨_, _, wakes_of e ⟨rfl, rfl⟩, b⟩
  | resumeFinished e b => exact ⟨_, _, wakes_of e ⟨rfl, rfl⟩, b⟩
  | segRet a b | segGen a b => exact ⟨_, _, a, b⟩
  | segSuspOut e a => exact ⟨_, _, a, by unfold segNext; rw [e]; exact ⟨rfl, rfl⟩⟩
  | segSuspGen e a _ b => exact ⟨_, _, a, by unfold segNext; rw [e]; exact b⟩

theorem runs_det {M : Model} {Γ : Ctx} {p : Pos} {t : Sem Fin} {fs : List Frame} {s s₁ : Shared} {e₁ : End} (h : Runs M Γ p t fs s e₁ s₁) :
    ∀ {e₂ s₂}, Runs M Γ p t fs s e₂ s₂ → e₁ = e₂ ∧ s₁ = s₂ := by
  induction h with
  | done | raise | yield => exact fun h => have q := runs_inv h; ⟨q.1.symm, q.2.symm⟩
  | again _ _ ih | update _ _ ih | choose _ _ ih => exact fun h => ih (runs_inv h)
  | rule _ ih | «at» _ ih | loadIfAlive _ ih | point _ ih | alloc _ ih | fresh _ ih | ask _ ih | os _ ih | handled _ ih | stack _ ih | thread _ ih | newGen _ ih => exact fun h => ih (runs_inv h)
  | load e _ ih | genState e _ ih => exact fun h => let ⟨_, e', q⟩ := runs_inv h; ih (Option.some.inj (e'.symm.trans e) ▸ q)
  | call _ _ ih1 ih2 =>
      intro _ _ h
      obtain ⟨_, _, a, b⟩ := runs_inv h
      obtain ⟨rfl, rfl⟩ := ih1 a
      exact ih2 b
  | callSusp _ ih1 =>
      intro _ _ h
      obtain ⟨_, _, a, b⟩ := runs_inv h
      obtain ⟨rfl, rfl⟩ := ih1 a
      exact ⟨b.1.symm, b.2.symm⟩
  | resumeFresh e _ _ _ ih1 ih2 | resumeSuspended e _ _ _ ih1 ih2 =>
      intro _ _ h
      obtain ⟨_, _, a, b⟩ := runs_inv h
      obtain ⟨_, _, c, _, rfl, rfl⟩ := wakes_to e a
      obtain ⟨rfl, rfl⟩ := ih1 c
      exact ih2 b
  | resumeJustStarted e n _ ih =>
      intro _ _ h
      obtain ⟨_, _, a, b⟩ := runs_inv h
      have a' := wakes_to e a
      rw [just_started n] at a'
      obtain ⟨rfl, rfl⟩ := a'
      exact ih b
  | resumeThrowFresh e _ ih | resumeRunning e _ ih | resumeFinished e _ ih =>
      intro _ _ h
      obtain ⟨_, _, a, b⟩ := runs_inv h
      obtain ⟨rfl, rfl⟩ := wakes_to e a
      exact ih b
  | segRet _ _ ih1 ih2 | segGen _ _ ih1 ih2 =>
      intro _ _ h
      obtain ⟨_, _, a, b⟩ := runs_inv h
      obtain ⟨rfl, rfl⟩ := ih1 a
      exact ih2 b
  | segSuspOut e _ ih1 =>
      intro _ _ h
      obtain ⟨_, _, a, b⟩ := runs_inv h
      obtain ⟨rfl, rfl⟩ := ih1 a
      unfold segNext at b
      rw [e] at b
      exact ⟨b.1.symm, b.2.symm⟩
  | segSuspGen e _ _ _ ih1 ih2 =>
      intro _ _ h
      obtain ⟨_, _, a, b⟩ := runs_inv h
      obtain ⟨rfl, rfl⟩ := ih1 a
      unfold segNext at b
      rw [e] at b
      exact ih2 b

theorem ends_det {M : Model} {Γ : Ctx} {p : Pos} {t : Sem Fin} {fs : List Frame} {s : Shared} {g : Nat} {r₁ r₂ : GenResult} {s₁ s₂ : Shared}
    (h1 : ∃ e t', Runs M Γ p t fs s e t' ∧ e.quiet = true ∧ r₁ = e.result ∧ s₁ = t'.setGen g e.genState) (h2 : ∃ e t', Runs M Γ p t fs s e t' ∧ e.quiet = true ∧ r₂ = e.result ∧ s₂ = t'.setGen g e.genState) : r₁ = r₂ ∧ s₁ = s₂ := by
  obtain ⟨e, t', a, _, rfl, rfl⟩ := h1
  obtain ⟨e', t'', b, _, rfl, rfl⟩ := h2
  obtain ⟨rfl, rfl⟩ := runs_det a b
  exact ⟨rfl, rfl⟩
theorem eqs_det {α β : Type} {a a' x : α} {b b' y : β} (h1 : a = x ∧ b = y) (h2 : a' = x ∧ b' = y) : a = a' ∧ b = b' := ⟨h1.1.trans h2.1.symm, h1.2.trans h2.2.symm⟩
theorem wakes_det {M : Model} {Γ : Ctx} {p : Pos} {g : Nat} {r : Resume} {s s₁ s₂ : Shared} {r₁ r₂ : GenResult} (h1 : Wakes M Γ p g r s r₁ s₁) (h2 : Wakes M Γ p g r s r₂ s₂) : r₁ = r₂ ∧ s₁ = s₂ := by
  cases hg : s.gens[g]? with
  | none => unfold Wakes at h1; rw [hg] at h1; exact h1.elim
  | some st =>
    have h1 := wakes_to hg h1
    have h2 := wakes_to hg h2
    clear hg
    cases st with
    | fresh c =>
      cases r with
      | send v => exact (Classical.em (v = .none)).elim (fun e => by subst e; exact ends_det h1 h2) fun n => by rw [just_started n] at h1 h2; exact eqs_det h1 h2
      | throw x => exact eqs_det h1 h2
    | suspended k₀ l₀ c₀ p₀ fs cl => exact ends_det h1 h2
    | running => exact eqs_det h1 h2
    | finished => exact eqs_det h1 h2

theorem wp_and {α : Type} {M : Model} {Γ : Ctx} (t : Sem α) {Q1 Q2 : α → Pos → Shared → Prop} {E1 E2 : Value → Pos → Shared → Prop} (p : Pos) (s : Shared) (h1 : Sem.wp M Γ t Q1 E1 p s) (h2 : Sem.wp M Γ t Q2 E2 p s) :
    Sem.wp M Γ t (fun a p s => Q1 a p s ∧ Q2 a p s) (fun a p s => E1 a p s ∧ E2 a p s) p s := by
  induction t generalizing p s with
  | pure x => exact ⟨h1, h2⟩
  | raise v => exact ⟨h1, h2⟩
  | unsupported | finish | yield | fork | await | register => exact h1
  | rule _ k ih | «at» _ k ih | alloc _ k ih | loadIfAlive _ k ih | point _ k ih | fresh k ih | ask k ih | os _ _ k ih | handled _ k ih | newGen _ k ih | stack k ih | thread k ih => exact ih _ _ _ h1 h2
  | load a _ k ih | genState a k ih =>
    obtain ⟨o, ho, h1⟩ := h1
    obtain ⟨o', ho', h2⟩ := h2
    rw [ho] at ho'; cases ho'
    exact ⟨o, ho, ih _ _ _ h1 h2⟩
  | update a _ f k ih | choose _ _ k ih => exact ⟨h1.1, ih _ _ _ h1.2 h2.2⟩
  | call c h g l k ih =>
    obtain ⟨r, s1, x1, h1⟩ := h1
    obtain ⟨r', s1', x2, h2⟩ := h2
    obtain ⟨e, e'⟩ := runs_det x1 x2
    cases e; subst e'
    exact ⟨r, s1, x1, ih _ _ _ h1 h2⟩
  | resume g r l k ih =>
    obtain ⟨r, s1, x1, h1⟩ := h1
    obtain ⟨r', s1', x2, h2⟩ := h2
    obtain ⟨e, e'⟩ := wakes_det x1 x2
    subst e; subst e'
    exact ⟨r, s1, x1, ih _ _ _ h1 h2⟩

theorem wpAny_both {α : Type} {M : Model} {A : Around} {t : Sem α} {Q1 Q2 : α → Shared → Prop} {E1 E2 : Value → Shared → Prop} {s : Shared} (h1 : wpAny M A t Q1 E1 s) (h2 : wpAny M A t Q2 E2 s) :
    wpAny M A t (fun a s => Q1 a s ∧ Q2 a s) (fun a s => E1 a s ∧ E2 a s) s := fun Γ p hΓ => wp_and t p s (h1 Γ p hΓ) (h2 Γ p hΓ)
end Mine
end

noncomputable section -- NB
open PySem PyProof.Rows
set_option maxRecDepth 100000
namespace Mine

noncomputable def led (h : Heap) (L : Addr) : List (Addr × Obj) := (List.range h.objs.size).filterMap fun a => if a = L then none else (h.get? a).map fun o => (a, o)
theorem led_mem {h : Heap} {L a : Addr} {o : Obj} (n : a ≠ L) (e : h.get? a = some o) : (a, o) ∈ led h L := by
  unfold led
  rw [List.mem_filterMap]
  exact ⟨a, List.mem_range.mpr (Heap.lt_size e), by rw [if_neg n, e]; rfl⟩
theorem led_of {h : Heap} {L : Addr} {p : Addr × Obj} (hp : p ∈ led h L) : p.1 ≠ L ∧ h.get? p.1 = some p.2 := by
  unfold led at hp
  rw [List.mem_filterMap] at hp
  obtain ⟨a, _, e⟩ := hp
  by_cases n : a = L
  · rw [if_pos n] at e; cases e
  · rw [if_neg n] at e
    cases q : h.get? a with
    | none => rw [q] at e; cases e
    | some o => rw [q] at e; cases e; exact ⟨n, q⟩
noncomputable abbrev H0 : Heap := {}
theorem H0_get (a : Addr) : H0.get? a = none := by
  cases e : H0.get? a with
  | none => rfl
  | some o => exact absurd (Heap.lt_size e) (Nat.not_lt_zero _)
theorem led_news (h : Heap) (L : Addr) : PyProof.Rows.News H0 L h (led h L) := fun p hp => ⟨(led_of hp).2, (led_of hp).1, H0_get _⟩
theorem led_fr {h : Heap} {L : Addr} {m : Str → Option Value} (n : h.Ns L m) : PyProof.Rows.Fr H0 L h m := ⟨n, (fun b o e => by rw [H0_get] at e; cases e), Nat.zero_le _⟩
theorem led_keep {h h' : Heap} {L : Addr} {news : List (Addr × Obj)} (N : PyProof.Rows.News H0 L h' news) (hs : ∀ p ∈ led h L, p ∈ news) : ∀ b o, b ≠ L → h.get? b = some o → h'.get? b = some o := fun b o n e => (N _ (hs _ (led_mem n e))).1

theorem wp_led {M : Model} {A : Around} {t : Sem Value} {s : Shared} {L1 L2 : Addr} {m1 m2 : Str → Option Value} {P : Value → Shared → Prop} {E : Value → Shared → Prop} (h1 : s.heap.Ns L1 m1) (h2 : s.heap.Ns L2 m2) (hne : L1 ≠ L2)
    (h : ∀ L m, PyProof.Rows.Fr H0 L s.heap m → PyProof.Rows.News H0 L s.heap (led s.heap L) → wpAny M A t (fun v s' => P v s' ∧ ∀ b o, b ≠ L → s.heap.get? b = some o → s'.heap.get? b = some o) E s) :
    wpAny M A t (fun v s' => P v s' ∧ ∀ b o, s.heap.get? b = some o → s'.heap.get? b = some o) E s :=
  wpAny_mono (wpAny_both (h L1 m1 (led_fr h1) (led_news _ _)) (h L2 m2 (led_fr h2) (led_news _ _))) (fun v s' q => ⟨q.1.1, fun b o e => by
    by_cases hb : b = L1
    · exact q.2.2 b o (fun z => hne (hb.symm.trans z)) e
    · exact q.1.2 b o hb e⟩) fun _ _ q => q.1
end Mine
end

noncomputable section -- MB
open PySem PyProof.Rows
set_option maxRecDepth 100000
namespace Mine

theorem mem_lk {β : Type} {x : Str} {v : β} : ∀ {l : List (Str × β)}, l.lookup x = some v → (x, v) ∈ l
  | (y, u) :: l, h => by
    rw [List.lookup_cons] at h
    cases e : x == y with
    | true => rw [e] at h; cases h; rw [eq_of_beq e]; exact .head _
    | false => rw [e] at h; exact .tail _ (mem_lk h)
theorem mem_lkA {β : Type} {x : Addr} {v : β} : ∀ {l : List (Addr × β)}, l.lookup x = some v → (x, v) ∈ l
  | (y, u) :: l, h => by
    rw [List.lookup_cons] at h
    cases e : x == y with
    | true => rw [e] at h; cases h; rw [eq_of_beq e]; exact .head _
    | false => rw [e] at h; exact .tail _ (mem_lkA h)
theorem vs1 {P : List Value → Prop} (h : ∀ a, P [a]) (vs : List Value) (e : vs.length = 1) : P vs := by
  obtain ⟨a, rfl⟩ := List.length_eq_one_iff.mp e
  exact h a
theorem vs2 {P : List Value → Prop} (h : ∀ a b, P [a, b]) (vs : List Value) (e : vs.length = 2) : P vs := by
  cases vs with
  | nil => cases e
  | cons a l =>
    obtain ⟨b, rfl⟩ := List.length_eq_one_iff.mp (Nat.succ.inj e)
    exact h a b
theorem cls_elim {h : Heap} {C N : Addr} {mN : Str → Option Value} (X : ClsAt h C N mN) {P : Prop} (k : ∀ nm q bs sn sub col dd k0 k1 k2 k3 k5, h.get? C = some (excClassObj nm q C N bs [.type "object"] true sn sub false col dd k0 k1 k2 k3 k5 "object.__new__") → P) : P := by
  obtain ⟨nm, q, bs, sn, sub, col, dd, k0, k1, k2, k3, k5, e⟩ := X.obj
  exact k nm q bs sn sub col dd k0 k1 k2 k3 k5 e
theorem ns_low {h h' : Heap} {a : Addr} {m : Str → Option Value} (x : h.Ns a m) (hk : ∀ o, h.get? a = some o → h'.get? a = some o) : h'.Ns a m := let ⟨o, es, ep, e, r⟩ := x; ⟨o, es, ep, hk _ e, r⟩
theorem cls_low {h h' : Heap} {C N : Addr} {mN : Str → Option Value} (X : ClsAt h C N mN) (h1 : ∀ o, h.get? C = some o → h'.get? C = some o) (h2 : ∀ o, h.get? N = some o → h'.get? N = some o) : ClsAt h' C N mN :=
  cls_elim X fun nm q bs sn sub col dd k0 k1 k2 k3 k5 e => ⟨⟨nm, q, bs, sn, sub, col, dd, k0, k1, k2, k3, k5, h1 _ e⟩, ns_low X.ns h2⟩
noncomputable def Tab (h : Heap) : Prop := ∃ ps, h.IsCode 76 72 ps ∧ h.TableAt 76 72 ps

structure Ext (s s' : Shared) : Prop where
  keep : ∀ b o, s.heap.get? b = some o → b ≠ 72 → s'.heap.get? b = some o
  os : s'.os = s.os
  bare : AllBare s.gens → AllBare s'.gens
  tab : Tab s.heap → Tab s'.heap

theorem Tab.keep {h h' : Heap} (t : Tab h) (hk : ∀ b o, h.get? b = some o → h'.get? b = some o) : Tab h' := let ⟨ps, a, b⟩ := t; ⟨ps, a.keeps hk, b.keeps hk⟩

namespace Ext
theorem refl (s : Shared) : Ext s s := ⟨fun _ _ e _ => e, rfl, fun x => x, fun x => x⟩
theorem trans {s s' s'' : Shared} (x : Ext s s') (y : Ext s' s'') : Ext s s'' :=
  ⟨fun b o e n => y.keep b o (x.keep b o e n) n, y.os.trans x.os, fun q => y.bare (x.bare q), fun q => y.tab (x.tab q)⟩
theorem of_keep {s : Shared} {h' : Heap} {tk : Nat} (hk : ∀ b o, s.heap.get? b = some o → h'.get? b = some o) : Ext s { s with heap := h', toks := tk } :=
  ⟨fun b o e _ => hk b o e, rfl, fun x => x, fun x => x.keep hk⟩
theorem toks (s : Shared) (tk : Nat) : Ext s { s with toks := tk } := of_keep (h' := s.heap) (fun _ _ e => e)
theorem push (s : Shared) (o : Obj) (tk : Nat) : Ext s { s with heap := s.heap.push o, toks := tk } :=
  of_keep (fun _ _ e => Heap.get?_push_of_some _ e)
end Ext

noncomputable def fdOf (st : Stmt) (qual : Str) (md : Value) (code : Addr) : FuncData := match st with
  | .FunctionDef name args body _ _ _ scope _ _ _ => { name, qualname := qual, params := args, body := .stmts body, scope, globals := 3, closure := [], defaults := .none, kwdefaults := .none, pyModule := md, code := .ref code }
  | _ => default
noncomputable def bodyOf : Stmt → List Stmt
  | .FunctionDef _ _ body _ _ _ _ _ _ _ => body
  | .ClassDef _ _ _ body _ _ _ _ _ _ _ => body
  | .For _ _ body _ _ => body
  | .While _ body _ _ => body
  | .If _ body _ _ => body
  | _ => []
noncomputable def stAt (l : List Stmt) (i : Nat) : Stmt := l.getD i (.Pass ⟨0, 0, 0, 0⟩)
noncomputable def topSt (i : Nat) : Stmt := stAt PG.main.body i
noncomputable def subSt (i j : Nat) : Stmt := stAt (bodyOf (topSt i)) j

noncomputable def mNet : Value := .str (Str.ofString "cpy313.netrc") 194
noncomputable def mPst : Value := .str (Str.ofString "cpy313.pstats") 254
noncomputable def mTab : Value := .str (Str.ofString "cpy313.tabnanny") 285
noncomputable def mLaw : Value := .str (Str.ofString "law_pe0188_01") 387

noncomputable def fdNInit : FuncData := fdOf (subSt 2 0) "_netrclex.__init__" mNet 34
noncomputable def fdReadChar : FuncData := fdOf (subSt 2 1) "_netrclex._read_char" mNet 41
noncomputable def fdGetToken : FuncData := fdOf (subSt 2 2) "_netrclex.get_token" mNet 48
noncomputable def fdPushToken : FuncData := fdOf (subSt 2 3) "_netrclex.push_token" mNet 55
noncomputable def fdAFS : FuncData := fdOf (topSt 4) "add_func_stats" mPst 69
noncomputable def fdAC : FuncData := fdOf (topSt 5) "add_callers" mPst 76
noncomputable def fdWInit : FuncData := fdOf (subSt 7 1) "Whitespace.__init__" mTab 93
noncomputable def fdLongest : FuncData := fdOf (subSt 7 2) "Whitespace.longest_run_of_spaces" mTab 100
noncomputable def fdIndent : FuncData := fdOf (subSt 7 3) "Whitespace.indent_level" mTab 107
noncomputable def fdLess : FuncData := fdOf (subSt 7 6) "Whitespace.less" mTab 128
noncomputable def fdMachine : FuncData := fdOf (topSt 9) "_law_machine" mLaw 149
noncomputable def fdWritten : FuncData := fdOf (topSt 10) "_law_written" mLaw 154
noncomputable def fdColumn : FuncData := fdOf (topSt 11) "_law_column" mLaw 161
noncomputable def fdLead : FuncData := fdOf (topSt 12) "_law_lead" mLaw 168
noncomputable def fdSigned : FuncData := fdOf (topSt 13) "_law_signed" mLaw 173
noncomputable def fdTables : FuncData := fdOf (topSt 14) "_law_tables" mLaw 178
noncomputable def fdLaw : FuncData := fdOf (topSt 15) "law" mLaw 183

noncomputable def fnObj (fd : FuncData) : Obj := { cls := .type "function", data := .func fd }
noncomputable def fnTable : List (Addr × FuncData) :=
  [(35, fdNInit), (42, fdReadChar), (49, fdGetToken), (56, fdPushToken), (70, fdAFS), (77, fdAC), (94, fdWInit), (101, fdLongest), (108, fdIndent), (129, fdLess),
   (150, fdMachine), (155, fdWritten), (162, fdColumn), (169, fdLead), (174, fdSigned), (179, fdTables), (184, fdLaw)]
noncomputable def globTable : List (Str × Value) :=
  [("_netrclex", .ref 59), ("add_func_stats", .ref 70), ("add_callers", .ref 77), ("Whitespace", .ref 139), ("_law_machine", .ref 150), ("_law_written", .ref 155),
   ("_law_column", .ref 162), ("_law_lead", .ref 169), ("_law_signed", .ref 174), ("_law_tables", .ref 179), ("__builtins__", .ref 4)]
noncomputable def builtNames : List Str := ["len", "range", "sum", "sorted", "max", "tuple", "zip", "isinstance", "iter"]

noncomputable def netTab : List (Str × Option Value) :=
  [("__init__", some (.ref 35)), ("_read_char", some (.ref 42)), ("get_token", some (.ref 49)), ("push_token", some (.ref 56)), ("__getattribute__", none), ("__getattr__", none), ("__setattr__", none),
   ("lineno", none), ("instream", none), ("whitespace", none), ("pushback", none)]
noncomputable def wsTab : List (Str × Option Value) :=
  [("__init__", some (.ref 94)), ("longest_run_of_spaces", some (.ref 101)), ("indent_level", some (.ref 108)), ("less", some (.ref 129)), ("S", some (.str (Str.ofString " ") 300)), ("T", some (.str (Str.ofString "\t") 301)),
   ("__getattribute__", none), ("__getattr__", none), ("__setattr__", none), ("raw", none), ("n", none), ("nt", none), ("norm", none), ("is_simple", none)]
noncomputable def clsTab : List (Addr × Addr × List (Str × Option Value)) := [(59, 58, netTab), (139, 138, wsTab)]

structure FragOk (K : PySem.W.Frag) : Prop where
  lt : ∀ p ∈ K, p.1 < 185 ∧ p.1 ≠ 72 ∧ p.1 ≠ 145
  reads : PySem.W.readsIn K 139 (.type "type") = true
  s : PySem.W.findCls K (.ref 139) (.type "type") (Str.ofString "S") = some (.val (.str (Str.ofString " ") 300))
  t : PySem.W.findCls K (.ref 139) (.type "type") (Str.ofString "T") = some (.val (.str (Str.ofString "\t") 301))
  makes : ∀ p ∈ ([(59, 35), (139, 94)] : List (Addr × Addr)), PySem.W.makesIn K p.1 = true ∧ PySem.W.findIn K (.ref p.1) "__init__" = some (some (.ref p.2)) ∧ PySem.W.typeIn K (.ref p.2) = some (.type "function")

structure G (w : World) (h : Heap) : Prop where
  fns : ∀ p ∈ fnTable, h.get? p.1 = some (fnObj p.2) ∧ h.CodeRec p.2.code p.2.qualname
  glob : ∃ mg, h.Ns 3 mg ∧ (∀ p ∈ globTable, mg p.1 = some p.2) ∧ ∀ x ∈ builtNames, mg x = none
  blt : ∃ mb, h.Ns builtinsNs mb ∧ ∀ x : Str, x ≠ "__name__" → mb x = bootBuiltins x
  lim : h.NoLimit
  tab : Tab h
  cls : ∀ p ∈ clsTab, ∃ mN, ClsAt h p.1 p.2.1 mN ∧ ∀ q ∈ p.2.2, mN q.1 = q.2
  frag : ∃ K : PySem.W.Frag, K.In h ∧ FragOk K
  hd2 : PySem.W.CodeHd h 149 145
  bmod : ∃ ob, h.get? 4 = some ob ∧ ob.cls = .type "module" ∧ ob.dict = some builtinsNs ∧ ob.data = .plain

theorem G.size {w : World} {h : Heap} (g : G w h) : 185 ≤ h.objs.size := Heap.lt_size (g.fns (184, fdLaw) (by exact mem_lkA rfl)).1


end Mine
end

noncomputable section -- MC
open PySem PyProof.Rows
set_option maxRecDepth 100000
namespace Mine

theorem code_lt : (fnTable.all fun p => match p.2.code with | .ref c => decide (c < 185 ∧ c ≠ 72 ∧ c ≠ 145 ∧ p.1 < 185 ∧ p.1 ≠ 72 ∧ p.1 ≠ 145) | _ => false) = true := by decide +kernel

theorem mem_of_lookup' {α : Type} : ∀ {l : List (Addr × α)} {a : Addr} {o : α}, l.lookup a = some o → (a, o) ∈ l
  | (b, x) :: l, a, o, e => by
    rw [List.lookup_cons] at e
    cases h : a == b with
    | true => rw [h] at e; cases e; rw [beq_iff_eq.mp h]; exact List.mem_cons_self
    | false => rw [h] at e; exact List.mem_cons_of_mem _ (mem_of_lookup' e)

theorem cls_lt : (clsTab.all fun p => decide (p.1 < 185 ∧ p.1 ≠ 72 ∧ p.1 ≠ 145 ∧ p.2.1 < 185 ∧ p.2.1 ≠ 72 ∧ p.2.1 ≠ 145)) = true := by decide +kernel

theorem hd_low {h h' : Heap} {c P : Addr} (x : PySem.W.CodeHd h c P) (hk : ∀ o, h.get? c = some o → h'.get? c = some o) : PySem.W.CodeHd h' c P := by
  obtain ⟨o, vs, file, tf, flags, tg, inF, text, tt, e, r⟩ := x
  exact ⟨o, vs, file, tf, flags, tg, inF, text, tt, hk _ e, r⟩
theorem G.mod {w : World} {h h' : Heap} (g : G w h) (hk : ∀ b o, b < 185 → b ≠ 72 → b ≠ 145 → h.get? b = some o → h'.get? b = some o) (ht : Tab h') : G w h' where
  fns := fun p hp => by
    have q := List.all_eq_true.mp code_lt p hp
    obtain ⟨a, c, o, vs, t, e, r, z⟩ := g.fns p hp
    rw [e] at q
    have q' := of_decide_eq_true q
    exact ⟨hk _ _ q'.2.2.2.1 q'.2.2.2.2.1 q'.2.2.2.2.2 a, c, o, vs, t, e, hk _ _ q'.1 q'.2.1 q'.2.2.1 r, z⟩
  glob := let ⟨mg, n, z⟩ := g.glob; ⟨mg, ns_low n fun o => hk _ o (by decide) (by decide) (by decide), z⟩
  blt := let ⟨mg, n, z⟩ := g.blt; ⟨mg, ns_low n fun o => hk _ o (by decide) (by decide) (by decide), z⟩
  lim := let ⟨mg, n, z⟩ := g.lim; ⟨mg, ns_low n fun o => hk _ o (by decide) (by decide) (by decide), z⟩
  tab := ht
  cls := fun p hp => by
    have q := List.all_eq_true.mp cls_lt p hp
    have q' := of_decide_eq_true q
    obtain ⟨mN, X, z⟩ := g.cls p hp
    exact ⟨mN, cls_low X (fun o => hk _ o q'.1 q'.2.1 q'.2.2.1) fun o => hk _ o q'.2.2.2.1 q'.2.2.2.2.1 q'.2.2.2.2.2, z⟩
  frag := by
    obtain ⟨K, x, b⟩ := g.frag
    exact ⟨K, fun a o e => (let ⟨b1, b2, b3⟩ := b.lt (a, o) (mem_of_lookup' e); hk a o b1 b2 b3 (x a o e)), b⟩
  hd2 := hd_low g.hd2 fun o => hk _ o (by decide) (by decide) (by decide)
  bmod := let ⟨ob, e, r⟩ := g.bmod; ⟨ob, hk _ _ (by decide) (by decide) (by decide) e, r⟩
theorem G.ext {w : World} {s s' : Shared} (g : G w s.heap) (x : Ext s s') : G w s'.heap :=
  g.mod (fun b o _ n _ e => x.keep b o e n) (x.tab g.tab)

inductive LV where
  | fz (d : D)
  | own (as : List Addr) (R : (Addr → Prop) → Heap → Value → Prop)

noncomputable def LV.adr : LV → List Addr
  | .fz _ => []
  | .own as _ => as
noncomputable def LV.Rep (w : World) (μ : Addr → Prop) (h : Heap) (v : Value) : LV → Prop
  | .fz d => Rp w μ h v d
  | .own _ R => R μ h v

noncomputable def Stable (as : List Addr) (R : (Addr → Prop) → Heap → Value → Prop) : Prop :=
  ∀ μ μ' h h' v, (∀ a o, h.get? a = some o → ¬ μ a → ¬ μ' a) → (∀ b o, (¬ μ b ∨ b ∈ as) → h.get? b = some o → h'.get? b = some o) → R μ h v → R μ' h' v
noncomputable def LV.Ok : LV → Prop
  | .fz _ => True
  | .own as R => Stable as R

noncomputable abbrev Big (a : Nat) : Prop := 185 ≤ a
noncomputable abbrev Loc := Str → Option LV
noncomputable def upd (ρ : Loc) (x : Str) (l : LV) : Loc := fun y => if y = x then some l else ρ y
noncomputable def Loc.nil : Loc := fun _ => none

noncomputable def Room (A : Around) (n : Nat) : Prop := A.handled = none ∧ A.depth + n < 900 ∧ A.units + 100 * n + 1000 < 9900

structure Cx where
  rk : Nat
  w : World
  A : Around
  env : Env
  s₀ : Shared
  μ₀ : Addr → Prop
  S : Addr → Prop
  pr : Addr → Prop

noncomputable def Cx.fp (c : Cx) : List Addr := c.env.locals :: c.env.cells.map (·.2)

noncomputable def VarAt (env : Env) (m : Str → Option Value) (h : Heap) (x : Str) (v : Value) : Prop :=
  (env.kindOf x = some .local ∧ m x = some v) ∨ ((env.kindOf x = some .cell ∨ env.kindOf x = some .free) ∧ ∃ cl, env.cells.lookup x = some cl ∧ h.IsCell cl (some v))

noncomputable def okName (x : Str) : Bool := !(x == ("__debug__" : Str)) && !(x == ("__classdict__" : Str))

structure FrameSt (c : Cx) (μ : Addr → Prop) (ρ : Loc) (h : Heap) : Prop where
  kind : c.env.scope.kind = .function
  glob : c.env.globals = 3
  blt : c.env.builtins = builtinsNs
  muL : μ c.env.locals
  baseL : c.s₀.heap.objs.size ≤ c.env.locals
  cellsM : ∀ p ∈ c.env.cells, μ p.2
  cells : ∀ x cl, c.env.cells.lookup x = some cl → ∃ v, h.IsCell cl v
  cellK : ∀ x cl, c.env.cells.lookup x = some cl → c.env.kindOf x ≠ some .local
  apart : c.env.cells.Pairwise fun x y => x.2 ≠ y.2
  cellsL : ∀ p ∈ c.env.cells, p.2 ≠ c.env.locals
  big : ∀ a ∈ c.fp, Big a
  prL : ∀ a ∈ c.fp, ¬ c.pr a
  var : ∃ m, h.Ns c.env.locals m ∧ ∀ x l, ρ x = some l → okName x = true ∧ ∃ v, VarAt c.env m h x v ∧ l.Rep c.w μ h v
  own : ∀ x l, ρ x = some l → l.Ok ∧ l.adr.Nodup ∧ ∀ a ∈ l.adr, μ a ∧ a ∉ c.fp ∧ ¬ c.pr a ∧ (c.s₀.heap.objs.size ≤ a ∨ c.S a) ∧ Big a
  sep : ∀ x y l k, ρ x = some l → ρ y = some k → x ≠ y → ∀ a ∈ l.adr, a ∉ k.adr

structure StM (c : Cx) (μ : Addr → Prop) (ρ : Loc) (s : Shared) : Prop where
  room : Room c.A c.rk
  g : G c.w s.heap
  keep : ∀ b o, c.s₀.heap.get? b = some o → ¬ c.S b → b ≠ 72 → s.heap.get? b = some o
  os : s.os = c.s₀.os
  bare : AllBare c.s₀.gens → AllBare s.gens
  mu0 : ∀ a, c.μ₀ a → μ a
  mu0lt : ∀ a, c.μ₀ a → a < c.s₀.heap.objs.size
  mu1 : ∀ a, μ a → c.μ₀ a ∨ c.s₀.heap.objs.size ≤ a
  live : ∀ a, μ a → ∃ o, s.heap.get? a = some o
  mu72 : μ 72
  ge : ∀ a, μ a → Big a ∨ a = 72 ∨ a = 145
  pr72 : ¬ c.pr 72
  prM : ∀ a, c.pr a → μ a
  frame : FrameSt c μ ρ s.heap

noncomputable def St (c : Cx) (ρ : Loc) (s : Shared) : Prop := ∃ μ, StM c μ ρ s

theorem IsCell.at {h h' : Heap} {cl : Addr} {v : Option Value} (x : h.IsCell cl v) (e : ∀ o, h.get? cl = some o → h'.get? cl = some o) : h'.IsCell cl v := let ⟨o, ho, r⟩ := x; ⟨o, e _ ho, r⟩

theorem Rp.move {w : World} {μ μ' : Addr → Prop} {h h' : Heap} {v : Value} {d : D} (r : Rp w μ h v d)
    (hμ : ∀ a o, h.get? a = some o → ¬ μ a → ¬ μ' a) (hk : ∀ b o, ¬ μ b → h.get? b = some o → h'.get? b = some o) : Rp w μ' h' v d := r.mvv hμ hk
theorem RpL.move {w : World} {μ μ' : Addr → Prop} {h h' : Heap} {v : List Value} {d : List D} (r : RpL w μ h v d)
    (hμ : ∀ a o, h.get? a = some o → ¬ μ a → ¬ μ' a) (hk : ∀ b o, ¬ μ b → h.get? b = some o → h'.get? b = some o) : RpL w μ' h' v d := r.mvv hμ hk
theorem RpK.move {w : World} {μ μ' : Addr → Prop} {h h' : Heap} {v : List (Str × Value)} {d : List (Str × D)} (r : RpK w μ h v d)
    (hμ : ∀ a o, h.get? a = some o → ¬ μ a → ¬ μ' a) (hk : ∀ b o, ¬ μ b → h.get? b = some o → h'.get? b = some o) : RpK w μ' h' v d := r.mvv hμ hk

theorem LV.Rep.keep {w : World} {μ μ' : Addr → Prop} {h h' : Heap} {v : Value} {l : LV} (r : l.Rep w μ h v) (ok : l.Ok)
    (hμ : ∀ a o, h.get? a = some o → ¬ μ a → ¬ μ' a) (hk : ∀ b o, (¬ μ b ∨ b ∈ l.adr) → h.get? b = some o → h'.get? b = some o) : l.Rep w μ' h' v := by
  cases l with
  | fz d => exact Rp.move r hμ fun b o n e => hk b o (.inl n) e
  | own as R => exact ok μ μ' h h' v hμ hk r

theorem FrameSt.move {c : Cx} {μ μ' : Addr → Prop} {ρ : Loc} {h h' : Heap} (f : FrameSt c μ ρ h)
    (hμ : ∀ a, μ a → μ' a) (hnew : ∀ a o, h.get? a = some o → ¬ μ a → ¬ μ' a)
    (hk : ∀ b o, (¬ μ b ∨ b ∈ c.fp ∨ ∃ x l, ρ x = some l ∧ b ∈ l.adr) → h.get? b = some o → h'.get? b = some o) : FrameSt c μ' ρ h' where
  kind := f.kind
  glob := f.glob
  blt := f.blt
  muL := hμ _ f.muL
  baseL := f.baseL
  cellsM := fun p hp => hμ _ (f.cellsM p hp)
  cells := fun x cl e => let ⟨v, q⟩ := f.cells x cl e; ⟨v, IsCell.at q fun o z => hk cl o (.inr (.inl (List.mem_cons_of_mem _ (List.mem_map.mpr ⟨(x, cl), mem_of_lookup e, rfl⟩)))) z⟩
  cellK := f.cellK
  apart := f.apart
  cellsL := f.cellsL
  big := f.big
  prL := f.prL
  var := by
    obtain ⟨m, hn, hv⟩ := f.var
    refine ⟨m, hn.at' fun o e => hk _ o (.inr (.inl List.mem_cons_self)) e, fun x l e => ?_⟩
    obtain ⟨ok, v, va, r⟩ := hv x l e
    refine ⟨ok, v, ?_, r.keep (f.own x l e).1 hnew fun b o z q => hk b o (z.elim .inl fun z => .inr (.inr ⟨x, l, e, z⟩)) q⟩
    rcases va with a | ⟨k, cl, e1, e2⟩
    · exact .inl a
    · exact .inr ⟨k, cl, e1, IsCell.at e2 fun o z => hk cl o (.inr (.inl (List.mem_cons_of_mem _ (List.mem_map.mpr ⟨(x, cl), mem_of_lookup e1, rfl⟩)))) z⟩
  own := fun x l e => let ⟨a, b, d⟩ := f.own x l e; ⟨a, b, fun z hz => let ⟨p, q⟩ := d z hz; ⟨hμ _ p, q⟩⟩
  sep := f.sep

structure Mv (c : Cx) (μ μ' : Addr → Prop) (s s' : Shared) : Prop where
  frz : ∀ b o, (¬ μ b ∨ c.pr b) → s.heap.get? b = some o → s'.heap.get? b = some o
  mu : ∀ a o, s.heap.get? a = some o → ¬ μ a → ¬ μ' a
theorem Mv.refl {c : Cx} {μ : Addr → Prop} {s : Shared} : Mv c μ μ s s := ⟨fun _ _ _ e => e, fun _ _ _ n => n⟩
theorem Mv.trans {c : Cx} {μ μ' μ'' : Addr → Prop} {s s' s'' : Shared} (x : Mv c μ μ' s s') (y : Mv c μ' μ'' s' s'') : Mv c μ μ'' s s'' :=
  ⟨fun b o n e => y.frz b o (n.elim (fun n => .inl (x.mu b o e n)) .inr) (x.frz b o n e), fun a o e n => y.mu a o (x.frz a o (.inl n) e) (x.mu a o e n)⟩
theorem Mv.ext {c : Cx} {μ : Addr → Prop} {s s' : Shared} (x : Ext s s') (h : μ 72) (h' : ¬ c.pr 72) : Mv c μ μ s s' :=
  ⟨fun b o n e => x.keep b o e (by rintro rfl; exact n.elim (fun n => n h) h'), fun _ _ _ n => n⟩
theorem Rp.mv {c : Cx} {μ μ' : Addr → Prop} {s s' : Shared} {v : Value} {d : D} (r : Rp c.w μ s.heap v d) (x : Mv c μ μ' s s') : Rp c.w μ' s'.heap v d := r.move x.mu fun b o n e => x.frz b o (.inl n) e
theorem RpL.mv {c : Cx} {μ μ' : Addr → Prop} {s s' : Shared} {v : List Value} {d : List D} (r : RpL c.w μ s.heap v d) (x : Mv c μ μ' s s') : RpL c.w μ' s'.heap v d := r.move x.mu fun b o n e => x.frz b o (.inl n) e
theorem StM.lt {c : Cx} {μ : Addr → Prop} {ρ : Loc} {s : Shared} (t : StM c μ ρ s) (a : Addr) (q : μ a) : a < s.heap.objs.size := let ⟨_, e⟩ := t.live a q; Heap.lt_size e
theorem StM.size {c : Cx} {μ : Addr → Prop} {ρ : Loc} {s : Shared} (t : StM c μ ρ s) : c.s₀.heap.objs.size ≤ s.heap.objs.size := Nat.le_of_lt (Nat.lt_of_le_of_lt t.frame.baseL (t.lt _ t.frame.muL))
theorem StM.ext {c : Cx} {μ : Addr → Prop} {ρ : Loc} {s s' : Shared} (t : StM c μ ρ s) (x : Ext s s') : StM c μ ρ s' where
  room := t.room
  g := t.g.ext x
  keep := fun b o e n n' => x.keep b o (t.keep b o e n n') n'
  os := x.os.trans t.os
  bare := fun q => x.bare (t.bare q)
  mu0 := t.mu0
  mu0lt := t.mu0lt
  mu1 := t.mu1
  live := fun a q => by
    obtain ⟨o, e⟩ := t.live a q
    by_cases h : a = 72
    · subst h
      obtain ⟨ps, _, b⟩ := x.tab t.g.tab
      exact ⟨_, b.2⟩
    · exact ⟨o, x.keep a o e h⟩
  mu72 := t.mu72
  ge := t.ge
  pr72 := t.pr72
  prM := t.prM
  frame := t.frame.move (fun _ q => q) (fun _ _ _ q => q) fun b o hb e => x.keep b o e (by
    rintro rfl
    rcases hb with hb | hb | ⟨y, l, e1, e2⟩
    · exact hb t.mu72
    · exact absurd (t.frame.big _ hb) (by decide)
    · exact absurd ((t.frame.own y l e1).2.2 _ e2).2.2.2.2 (by decide))
end Mine
end

noncomputable section -- MD
open PySem PyProof.Rows
set_option maxRecDepth 100000
namespace Mine

noncomputable abbrev NoE : Value → Shared → Prop := fun _ _ => False
noncomputable abbrev VP := (Addr → Prop) → Heap → Value → Prop
noncomputable abbrev isD (w : World) (d : D) : VP := fun μ h v => Rp w μ h v d

noncomputable def EvV (c : Cx) (ρ : Loc) (e : Expr) (P : VP) : Prop :=
  ∀ μ s, StM c μ ρ s → wpAny (model PG c.w) c.A (eval e c.env) (fun v s' => Ext s s' ∧ P μ s'.heap v) NoE s
noncomputable abbrev Ev (c : Cx) (ρ : Loc) (e : Expr) (d : D) : Prop := EvV c ρ e (isD c.w d)
noncomputable def EvL (c : Cx) (ρ : Loc) (pos : Pos) (es : List Expr) (ds : List D) : Prop :=
  ∀ μ s, StM c μ ρ s → wpAny (model PG c.w) c.A (spliced (backTo pos (starEach es c.env))) (fun vs s' => Ext s s' ∧ RpL c.w μ s'.heap vs ds) NoE s
noncomputable def Tst (c : Cx) (ρ : Loc) (e : Expr) (b : Bool) : Prop :=
  ∀ μ s, StM c μ ρ s → wpAny (model PG c.w) c.A (isTrue e c.env (eval e c.env)) (fun r s' => Ext s s' ∧ r = b) NoE s

noncomputable def SP (c : Cx) (ρ : Loc) (P : VP) : Prop := ∀ μ s s' v, StM c μ ρ s → Ext s s' → P μ s.heap v → P μ s'.heap v

section
variable {c : Cx} {ρ : Loc}

theorem Rp.ext {μ : Addr → Prop} {s s' : Shared} {v : Value} {d : D} (h72 : μ 72) (x : Ext s s') (r : Rp c.w μ s.heap v d) : Rp c.w μ s'.heap v d :=
  r.move (fun _ _ _ n => n) fun b o n e => x.keep b o e (by rintro rfl; exact n h72)
theorem RpL.ext {μ : Addr → Prop} {s s' : Shared} {v : List Value} {d : List D} (h72 : μ 72) (x : Ext s s') (r : RpL c.w μ s.heap v d) : RpL c.w μ s'.heap v d :=
  r.move (fun _ _ _ n => n) fun b o n e => x.keep b o e (by rintro rfl; exact n h72)
theorem RpK.ext {μ : Addr → Prop} {s s' : Shared} {v : List (Str × Value)} {d : List (Str × D)} (h72 : μ 72) (x : Ext s s') (r : RpK c.w μ s.heap v d) : RpK c.w μ s'.heap v d :=
  r.move (fun _ _ _ n => n) fun b o n e => x.keep b o e (by rintro rfl; exact n h72)

theorem SP.isD (d : D) : SP c ρ (isD c.w d) := fun _ _ _ _ t x r => Rp.ext t.mu72 x r
theorem SP.lv {x : Str} {l : LV} (e : ρ x = some l) : SP c ρ (fun μ h v => l.Rep c.w μ h v) := fun μ s s' v t x r => by
  obtain ⟨ok, _, hb⟩ := t.frame.own _ l e
  refine r.keep ok (fun _ _ _ n => n) fun b o n e' => x.keep b o e' ?_
  rintro rfl
  rcases n with n | n
  · exact n t.mu72
  · exact absurd (hb _ n).2.2.2.2 (by decide)

theorem EvV.mono {e : Expr} {P P' : VP} (h : EvV c ρ e P) (hp : ∀ μ h v, P μ h v → P' μ h v) : EvV c ρ e P' :=
  fun μ s t => wpAny_mono (h μ s t) (fun _ _ q => ⟨q.1, hp _ _ _ q.2⟩) fun _ _ x => x

theorem Ev.eq {e : Expr} {d d' : D} (h : Ev c ρ e d) (hd : d = d') : Ev c ρ e d' := hd ▸ h

theorem EvV_name {x : Str} {pos : Pos} {l : LV} (hx : ρ x = some l) : EvV c ρ (.Name x pos) (fun μ h v => l.Rep c.w μ h v) := fun μ s t => by
  obtain ⟨m, hn, hv⟩ := t.frame.var
  obtain ⟨ok, v, va, r⟩ := hv x l hx
  unfold okName at ok
  rw [Bool.and_eq_true, Bool.not_eq_true', Bool.not_eq_true'] at ok
  refine wpAny_Name ?_ ok.1
  rcases va with ⟨k, e⟩ | ⟨k | k, cl, e1, e2⟩
  · exact wpAny_loadName_local t.frame.kind k hn e ⟨.refl _, r⟩
  · exact wpAny_loadName_cell t.frame.kind k e1 e2 ⟨.refl _, r⟩
  · exact wpAny_loadName_free t.frame.kind k e1 e2 ⟨.refl _, r⟩ ok.2
theorem Ev_name {x : Str} {pos : Pos} {d : D} (hx : ρ x = some (.fz d)) : Ev c ρ (.Name x pos) d := EvV_name hx

theorem Ev_int {i : Int} {k : Nat} {pos : Pos} : Ev c ρ (.Constant (.int i) k pos) (.int i) := fun _ s _ => wpAny_Constant_int ⟨Ext.toks s _, .int _ _⟩
theorem Ev_str {x : Str} {k : Nat} {pos : Pos} : Ev c ρ (.Constant (.str x) k pos) (.str x) := fun _ s _ => wpAny_Constant_str ⟨Ext.toks s _, .str _ _⟩
theorem Ev_bool {b : Bool} {k : Nat} {pos : Pos} : Ev c ρ (.Constant (.bool b) k pos) (.bool b) := fun _ s _ => wpAny_Constant_bool ⟨.refl s, .bool _⟩
noncomputable def Op2 (c : Cx) (ρ : Loc) (f : Value → Value → Sem Value) (P1 P2 P : VP) : Prop :=
  ∀ μ s v1 v2, StM c μ ρ s → P1 μ s.heap v1 → P2 μ s.heap v2 → wpAny (model PG c.w) c.A (f v1 v2) (fun v s' => Ext s s' ∧ P μ s'.heap v) NoE s

theorem EvV_bin {l r : Expr} {op : Operator} {pos : Pos} {P1 P2 P : VP} (h1 : EvV c ρ l P1) (h2 : EvV c ρ r P2) (hp : SP c ρ P1) (ho : Op2 c ρ (binaryOp op) P1 P2 P) : EvV c ρ (.BinOp l op r pos) P := fun μ s t =>
  wpAny_BinOp (wpAny_mono (h1 μ s t) (fun v1 s1 q1 => wpAny_mono (h2 μ s1 (t.ext q1.1)) (fun v2 s2 q2 =>
    wpAny_mono (ho μ s2 v1 v2 ((t.ext q1.1).ext q2.1) (hp _ _ _ _ (t.ext q1.1) q2.1 q1.2) q2.2) (fun _ _ q3 => ⟨(q1.1.trans q2.1).trans q3.1, q3.2⟩) fun _ _ x => x) fun _ _ x => x) fun _ _ x => x)
theorem EvV_cmp {l r : Expr} {op : CmpOp} {pos : Pos} {P1 P2 P : VP} (h1 : EvV c ρ l P1) (h2 : EvV c ρ r P2) (hp : SP c ρ P1) (ho : Op2 c ρ (compareOp op) P1 P2 P) (hm : behindInMarks op r = false := by with_unfolding_all rfl) :
    EvV c ρ (.Compare l [op] [r] pos) P := fun μ s t =>
  wpAny_Compare1 (wpAny_mono (h1 μ s t) (fun v1 s1 q1 => wpAny_mono (h2 μ s1 (t.ext q1.1)) (fun v2 s2 q2 =>
    wpAny_mono (ho μ s2 v1 v2 ((t.ext q1.1).ext q2.1) (hp _ _ _ _ (t.ext q1.1) q2.1 q1.2) q2.2) (fun _ _ q3 => ⟨(q1.1.trans q2.1).trans q3.1, q3.2⟩) fun _ _ x => x) fun _ _ x => x) fun _ _ x => x) hm
theorem Tst_cmp {l r : Expr} {op : CmpOp} {pos : Pos} {P1 P2 : VP} {b : Bool} (h1 : EvV c ρ l P1) (h2 : EvV c ρ r P2) (hp : SP c ρ P1) (ho : Op2 c ρ (compareOp op) P1 P2 (isD c.w (.bool b))) (hm : behindInMarks op r = false := by with_unfolding_all rfl) :
    Tst c ρ (.Compare l [op] [r] pos) b := fun μ s t =>
  wpAny_isTrue_Compare1 (wpAny_mono (h1 μ s t) (fun v1 s1 q1 => wpAny_mono (h2 μ s1 (t.ext q1.1)) (fun v2 s2 q2 =>
    wpAny_mono (ho μ s2 v1 v2 ((t.ext q1.1).ext q2.1) (hp _ _ _ _ (t.ext q1.1) q2.1 q1.2) q2.2) (fun v s3 q3 => by
      obtain ⟨q4, q5⟩ := q3
      cases q5
      exact wpAny_truthy_bool ⟨(q1.1.trans q2.1).trans q4, rfl⟩) fun _ _ x => x) fun _ _ x => x) fun _ _ x => x) hm

theorem EvL_nil {pos : Pos} : EvL c ρ pos [] [] := fun _ s _ => wpAny_items_nil ⟨.refl s, .nil⟩
theorem EvL_cons {pos : Pos} {e : Expr} {es : List Expr} {d : D} {ds : List D} (h1 : Ev c ρ e d) (h2 : EvL c ρ pos es ds) (he : starEach (e :: es) c.env = (false, eval e c.env) :: starEach es c.env := by rfl) :
    EvL c ρ pos (e :: es) (d :: ds) := fun μ s t =>
  wpAny_items_cons (wpAny_mono (h1 μ s t) (fun _ s1 q1 => wpAny_mono (h2 μ s1 (t.ext q1.1)) (fun _ _ q2 => ⟨q1.1.trans q2.1, .cons (Rp.ext t.mu72 q2.1 q1.2) q2.2⟩) fun _ _ x => x) fun _ _ x => x) he

theorem fresh_not {μ : Addr → Prop} {s : Shared} (t : StM c μ ρ s) {a : Addr} (ha : s.heap.objs.size ≤ a) : ¬ μ a := fun z => Nat.not_lt.mpr ha (t.lt a z)

theorem Ev_tup {es : List Expr} {k : Nat} {pos : Pos} {ds : List D} (h : EvL c ρ pos es ds) (hz : ds.length ≤ sizeLine := by decide) : Ev c ρ (.Tuple es k pos) (.tup ds) := fun μ s t =>
  wpAny_Tuple (wpAny_mono (h μ s t) (fun vs s1 q => ⟨by rw [q.2.length]; exact hz, q.1.trans (Ext.push s1 _ s1.toks),
    .tup (fresh_not (t.ext q.1) (Nat.le_refl _)) (Heap.get?_push_size _ rfl) (RpL.ext (s := s1) t.mu72 (Ext.push s1 _ s1.toks) q.2)⟩) fun _ _ x => x)
theorem Ev_lst {es : List Expr} {pos : Pos} {ds : List D} (h : EvL c ρ pos es ds) (hz : ds.length ≤ sizeLine := by decide) : Ev c ρ (.List es pos) (.lst ds) := fun μ s t =>
  wpAny_List (wpAny_mono (h μ s t) (fun vs s1 q => ⟨by rw [q.2.length]; exact hz, q.1.trans (Ext.push s1 _ s1.toks),
    .lst (fresh_not (t.ext q.1) (Nat.le_refl _)) (Heap.get?_push_size _ rfl) (RpL.ext (s := s1) t.mu72 (Ext.push s1 _ s1.toks) q.2)⟩) fun _ _ x => x)

theorem Op2.int {f : Value → Value → Sem Value} {a b : Int} {d : D}
    (h : ∀ t u s (Q : Value → Shared → Prop), (∀ v tk, (∀ μ h, Rp c.w μ h v d) → Q v { s with toks := tk }) → wpAny (model PG c.w) c.A (f (.int a t) (.int b u)) Q NoE s) :
    Op2 c ρ f (isD c.w (.int a)) (isD c.w (.int b)) (isD c.w d) := fun μ s v1 v2 t r1 r2 => by
  cases r1 using Rp.elimInt; cases r2 using Rp.elimInt
  exact h _ _ _ _ fun v tk r => ⟨Ext.toks s tk, r _ _⟩

theorem Ev_add {l r : Expr} {pos : Pos} {a b : Int} (h1 : Ev c ρ l (.int a)) (h2 : Ev c ρ r (.int b)) : Ev c ρ (.BinOp l .Add r pos) (.int (a + b)) :=
  EvV_bin h1 h2 (.isD _) (.int fun _ _ _ _ q => PyProof.Rows.add_int (q _ _ fun _ _ => .int _ _))
theorem Ev_sub {l r : Expr} {pos : Pos} {a b : Int} (h1 : Ev c ρ l (.int a)) (h2 : Ev c ρ r (.int b)) : Ev c ρ (.BinOp l .Sub r pos) (.int (a - b)) :=
  EvV_bin h1 h2 (.isD _) (.int fun _ _ _ _ q => PyProof.Rows.sub_int (q _ _ fun _ _ => .int _ _))
theorem Ev_mul {l r : Expr} {pos : Pos} {a b : Int} (h1 : Ev c ρ l (.int a)) (h2 : Ev c ρ r (.int b)) (hm : IntMulOk a b) : Ev c ρ (.BinOp l .Mult r pos) (.int (a * b)) :=
  EvV_bin h1 h2 (.isD _) (.int fun _ _ _ _ q => PyProof.Rows.mul_int (q _ _ fun _ _ => .int _ _) hm)
theorem Ev_fdiv {l r : Expr} {pos : Pos} {a b : Int} (h1 : Ev c ρ l (.int a)) (h2 : Ev c ρ r (.int b)) (hb : 0 < b) (hs : b < 1073741824) : Ev c ρ (.BinOp l .FloorDiv r pos) (.int (a.fdiv b)) :=
  EvV_bin h1 h2 (.isD _) (.int fun _ _ _ _ q => PyProof.Rows.floordiv_int (by (first | lia | omega)) (q _ _ fun _ _ => .int _ _) (.inl (PyProof.noPylong_small (by (first | lia | omega)))))
theorem Ev_fmod {l r : Expr} {pos : Pos} {a b : Int} (h1 : Ev c ρ l (.int a)) (h2 : Ev c ρ r (.int b)) (hb : b ≠ 0) : Ev c ρ (.BinOp l .Mod r pos) (.int (a.fmod b)) :=
  EvV_bin h1 h2 (.isD _) (.int fun _ _ _ _ q => PyProof.Rows.mod_int' hb (q _ _ fun _ _ => .int _ _))
theorem Ev_pow {l r : Expr} {pos : Pos} {a n : Int} (h1 : Ev c ρ l (.int a)) (h2 : Ev c ρ r (.int n)) (hn : 0 ≤ n) (hsz : (Builtin.Int.intBits a : Int) * n ≤ 2 ^ 27) : Ev c ρ (.BinOp l .Pow r pos) (.int (a ^ n.toNat)) :=
  EvV_bin h1 h2 (.isD _) (.int fun _ _ _ _ q => PyProof.Rows.pow_int hn hsz (q _ _ fun _ _ => .int _ _))

theorem Op2.lt {a b : Int} : Op2 c ρ (compareOp .Lt) (isD c.w (.int a)) (isD c.w (.int b)) (isD c.w (.bool (decide (a < b)))) := .int fun _ _ s _ q => PyProof.Rows.lt_int (q _ s.toks fun _ _ => .bool _)
theorem Op2.le {a b : Int} : Op2 c ρ (compareOp .LtE) (isD c.w (.int a)) (isD c.w (.int b)) (isD c.w (.bool (decide (a ≤ b)))) := .int fun _ _ s _ q => PyProof.Rows.le_int (q _ s.toks fun _ _ => .bool _)
theorem Op2.ge {a b : Int} : Op2 c ρ (compareOp .GtE) (isD c.w (.int a)) (isD c.w (.int b)) (isD c.w (.bool (decide (b ≤ a)))) := .int fun _ _ s _ q => PyProof.Rows.ge_int (q _ s.toks fun _ _ => .bool _)
theorem Op2.eqI {a b : Int} : Op2 c ρ (compareOp .Eq) (isD c.w (.int a)) (isD c.w (.int b)) (isD c.w (.bool (a == b))) := .int fun _ _ s _ q => PyProof.Rows.eq_int (q _ s.toks fun _ _ => .bool _)
theorem Op2.neI {a b : Int} : Op2 c ρ (compareOp .NotEq) (isD c.w (.int a)) (isD c.w (.int b)) (isD c.w (.bool (a != b))) := .int fun _ _ s _ q => PyProof.Rows.ne_int (q _ s.toks fun _ _ => .bool _)
theorem Op2.eqS {a b : Str} : Op2 c ρ (compareOp .Eq) (isD c.w (.str a)) (isD c.w (.str b)) (isD c.w (.bool (a == b))) := fun μ s v1 v2 t r1 r2 => by
  cases r1 using Rp.elimStr; cases r2 using Rp.elimStr; exact PyProof.Rows.eq_str ⟨.refl _, .bool _⟩
theorem Op2.neS {a b : Str} : Op2 c ρ (compareOp .NotEq) (isD c.w (.str a)) (isD c.w (.str b)) (isD c.w (.bool (a != b))) := fun μ s v1 v2 t r1 r2 => by
  cases r1 using Rp.elimStr; cases r2 using Rp.elimStr; exact PyProof.Rows.ne_str ⟨.refl _, .bool _⟩
theorem Ev_cat {l r : Expr} {pos : Pos} {a b : Str} (h1 : Ev c ρ l (.str a)) (h2 : Ev c ρ r (.str b)) (hz : a.length + b.length ≤ sizeLine) : Ev c ρ (.BinOp l .Add r pos) (.str (a ++ b)) :=
  EvV_bin h1 h2 (.isD _) fun μ s v1 v2 t r1 r2 => by cases r1 using Rp.elimStr; cases r2 using Rp.elimStr; exact PyProof.Rows.add_str (fun _ tk => ⟨Ext.toks s tk, .str _ _⟩) hz
theorem Ev_neg {e : Expr} {pos : Pos} {a : Int} (h1 : Ev c ρ e (.int a)) : Ev c ρ (.UnaryOp .USub e pos) (.int (-a)) := fun μ s t =>
  wpAny_UnaryOp (wpAny_mono (h1 μ s t) (fun v s1 q => by obtain ⟨q1, q2⟩ := q; cases q2 using Rp.elimInt; exact PyProof.Rows.neg_int ⟨q1.trans (Ext.toks s1 _), .int _ _⟩) fun _ _ x => x)

end
end Mine
end

noncomputable section -- ME
open PySem PyProof.Rows
set_option maxRecDepth 100000
namespace Mine

inductive Out where
  | next (ρ : Loc)
  | brk (ρ : Loc)
  | cont (ρ : Loc)
  | ret (d : D) (ρ : Loc)

noncomputable def OutRep (c : Cx) (μ : Addr → Prop) (f : Flow) (s : Shared) : Out → Prop
  | .next ρ => f = .next ∧ StM c μ ρ s
  | .brk ρ => f = .brk ∧ StM c μ ρ s
  | .cont ρ => f = .cont ∧ StM c μ ρ s
  | .ret d ρ => ∃ v, f = .ret v ∧ StM c μ ρ s ∧ Rp c.w μ s.heap v d

noncomputable def Ends (c : Cx) (μ : Addr → Prop) (s : Shared) (Q : Out → Prop) (f : Flow) (s' : Shared) : Prop := ∃ o μ', Q o ∧ OutRep c μ' f s' o ∧ Mv c μ μ' s s'

noncomputable def W (c : Cx) (ρ : Loc) (ss : List Stmt) (Q : Out → Prop) : Prop :=
  ∀ μ s, StM c μ ρ s → wpAny (model PG c.w) c.A (execs ss c.env) (Ends c μ s Q) NoE s
noncomputable def X (c : Cx) (ρ : Loc) (st : Stmt) (Q : Out → Prop) : Prop :=
  ∀ μ s, StM c μ ρ s → wpAny (model PG c.w) c.A (exec st c.env) (Ends c μ s Q) NoE s

noncomputable def Turn (J : Loc → Prop) (Q : Out → Prop) : Out → Prop
  | .next ρ => J ρ
  | .cont ρ => J ρ
  | .brk ρ => Q (.next ρ)
  | .ret d ρ => Q (.ret d ρ)
noncomputable def After (c : Cx) (rest : List Stmt) (Q : Out → Prop) : Out → Prop
  | .next ρ => W c ρ rest Q
  | o => Q o

section
variable {c : Cx} {ρ : Loc} {Q : Out → Prop}

theorem Ends.trans {μ μ' : Addr → Prop} {s s' s'' : Shared} {f : Flow} (h : Ends c μ' s' Q f s'') (x : Mv c μ μ' s s') : Ends c μ s Q f s'' := let ⟨o, ν, a, b, d⟩ := h; ⟨o, ν, a, b, x.trans d⟩
theorem StM.mv {μ : Addr → Prop} {s s' : Shared} (t : StM c μ ρ s) (x : Ext s s') : Mv c μ μ s s' := .ext x t.mu72 t.pr72

theorem W_nil (h : Q (.next ρ)) : W c ρ [] Q := fun μ s t => wpAny_execs_nil ⟨_, μ, h, ⟨rfl, t⟩, .refl⟩
theorem W_cons {st : Stmt} {rest : List Stmt} (h : X c ρ st (After c rest Q)) : W c ρ (st :: rest) Q := fun μ s t => by
  refine wpAny_execs_cons (wpAny_mono (h μ s t) (fun f s' q => ?_) fun _ _ x => x)
  obtain ⟨o, μ', q, r, mv⟩ := q
  cases o with
  | next ρ' => obtain ⟨rfl, r⟩ := r; exact wpAny_mono (q μ' s' r) (fun _ _ e => e.trans mv) fun _ _ x => x
  | brk ρ' => obtain ⟨rfl, r⟩ := r; exact ⟨_, μ', q, ⟨rfl, r⟩, mv⟩
  | cont ρ' => obtain ⟨rfl, r⟩ := r; exact ⟨_, μ', q, ⟨rfl, r⟩, mv⟩
  | ret d ρ' => obtain ⟨v, rfl, r⟩ := r; exact ⟨_, μ', q, ⟨v, rfl, r⟩, mv⟩
theorem Ends.mono {μ : Addr → Prop} {s s' : Shared} {f : Flow} {Q' : Out → Prop} (h : Ends c μ s Q f s') (hq : ∀ o, Q o → Q' o) : Ends c μ s Q' f s' := let ⟨o, ν, a, b⟩ := h; ⟨o, ν, hq o a, b⟩
theorem W.mono {ss : List Stmt} {Q' : Out → Prop} (h : W c ρ ss Q) (hq : ∀ o, Q o → Q' o) : W c ρ ss Q' := fun μ s t =>
  wpAny_mono (h μ s t) (fun _ _ e => e.mono hq) fun _ _ x => x
theorem X.mono {st : Stmt} {Q' : Out → Prop} (h : X c ρ st Q) (hq : ∀ o, Q o → Q' o) : X c ρ st Q' := fun μ s t =>
  wpAny_mono (h μ s t) (fun _ _ e => e.mono hq) fun _ _ x => x

noncomputable def Storable (c : Cx) (x : Str) : Prop := okName x = true ∧ (c.env.kindOf x = some .local ∨ (c.env.kindOf x = some .cell ∧ ∃ cl, c.env.cells.lookup x = some cl ∧ c.s₀.heap.objs.size ≤ cl))

noncomputable def Held (c : Cx) (μ : Addr → Prop) (ρ : Loc) (x : Str) (l : LV) : Prop :=
  l.Ok ∧ l.adr.Nodup ∧ (∀ a ∈ l.adr, μ a ∧ a ∉ c.fp ∧ ¬ c.pr a ∧ (c.s₀.heap.objs.size ≤ a ∨ c.S a) ∧ Big a) ∧ ∀ y k, ρ y = some k → y ≠ x → ∀ a ∈ l.adr, a ∉ k.adr
theorem Held.fz {μ : Addr → Prop} {x : Str} {d : D} : Held c μ ρ x (.fz d) := ⟨trivial, List.nodup_nil, (fun a h => by cases h), fun _ _ _ _ a h => by cases h⟩

theorem lookup_inj {cs : List (Str × Addr)} (hp : cs.Pairwise fun x y => x.2 ≠ y.2) {x y : Str} {a : Addr} (h1 : cs.lookup x = some a) (h2 : cs.lookup y = some a) : x = y :=
  name_of_addr hp (mem_of_lookup h1) (mem_of_lookup h2)

theorem FrameSt.put {μ : Addr → Prop} {h h' : Heap} {x : Str} {l : LV} {v : Value} {p : Addr} (f : FrameSt c μ ρ h) (hx : okName x = true) (hh : Held c μ ρ x l) (r : l.Rep c.w μ h v) (hp : p ∈ c.fp)
    (hk : ∀ b o, b ≠ p → h.get? b = some o → h'.get? b = some o)
    (hcell : ∀ y cl, c.env.cells.lookup y = some cl → ∃ u, h'.IsCell cl u)
    (hvar : ∀ m, h.Ns c.env.locals m → ∃ m', h'.Ns c.env.locals m' ∧ VarAt c.env m' h' x v ∧ ∀ y u, y ≠ x → VarAt c.env m h y u → VarAt c.env m' h' y u) : FrameSt c μ (upd ρ x l) h' := by
  have hpm : μ p := by
    unfold Cx.fp at hp
    rcases List.mem_cons.mp hp with rfl | hp
    · exact f.muL
    · obtain ⟨q, hq, rfl⟩ := List.mem_map.mp hp
      exact f.cellsM q hq
  have hown : ∀ y k, ρ y = some k → ∀ a ∈ k.adr, a ≠ p := fun y k e a ha z => ((f.own y k e).2.2 a ha).2.1 (z ▸ hp)
  have hkeep : ∀ (k : LV) (u : Value), k.Ok → (∀ a ∈ k.adr, a ≠ p) → k.Rep c.w μ h u → k.Rep c.w μ h' u := fun k u ok hne q =>
    q.keep ok (fun _ _ _ n => n) fun b o z e => hk b o (z.elim (fun n hb => n (hb ▸ hpm)) fun n => hne b n) e
  refine ⟨f.kind, f.glob, f.blt, f.muL, f.baseL, f.cellsM, hcell, f.cellK, f.apart, f.cellsL, f.big, f.prL, ?_, ?_, ?_⟩
  · obtain ⟨m, hn, hv⟩ := f.var
    obtain ⟨m', hn', h1, h2⟩ := hvar m hn
    refine ⟨m', hn', fun y k e => ?_⟩
    unfold upd at e
    by_cases hy : y = x
    · rw [if_pos hy] at e; cases e; subst hy
      exact ⟨hx, v, h1, hkeep _ _ hh.1 (fun a ha z => (hh.2.2.1 a ha).2.1 (z ▸ hp)) r⟩
    · rw [if_neg hy] at e
      obtain ⟨ok, u, va, q⟩ := hv y k e
      exact ⟨ok, u, h2 y u hy va, hkeep _ _ (f.own y k e).1 (hown y k e) q⟩
  · intro y k e
    unfold upd at e
    by_cases hy : y = x
    · rw [if_pos hy] at e; cases e; exact ⟨hh.1, hh.2.1, hh.2.2.1⟩
    · rw [if_neg hy] at e; exact f.own y k e
  · intro y z k j ey ez hne a ha
    unfold upd at ey ez
    by_cases hy : y = x
    · rw [if_pos hy] at ey; cases ey
      rw [if_neg (fun e => hne (hy.trans e.symm))] at ez
      exact hh.2.2.2 z j ez (fun e => hne (hy.trans e.symm)) a ha
    · rw [if_neg hy] at ey
      by_cases hz : z = x
      · rw [if_pos hz] at ez; cases ez
        exact fun q => hh.2.2.2 y k ey hy a q ha
      · rw [if_neg hz] at ez
        exact f.sep y z k j ey ez hne a ha

theorem StM.put {μ : Addr → Prop} {s : Shared} {h' : Heap} {tk : Nat} {x : Str} {l : LV} {v : Value} {p : Addr} (t : StM c μ ρ s) (hx : okName x = true) (hh : Held c μ ρ x l) (r : l.Rep c.w μ s.heap v) (hp : p ∈ c.fp)
    (hb : c.s₀.heap.objs.size ≤ p) (hs : Heap.SameBut p s.heap h') (hlive : ∃ o, h'.get? p = some o)
    (hcell : ∀ y cl, c.env.cells.lookup y = some cl → ∃ u, h'.IsCell cl u)
    (hvar : ∀ m, s.heap.Ns c.env.locals m → ∃ m', h'.Ns c.env.locals m' ∧ VarAt c.env m' h' x v ∧ ∀ y u, y ≠ x → VarAt c.env m s.heap y u → VarAt c.env m' h' y u) : StM c μ (upd ρ x l) { s with heap := h', toks := tk } := by
  have hbig : 185 ≤ (p : Nat) := t.frame.big p hp
  refine ⟨t.room, t.g.mod (fun b o hb' n _ e => hs.extBut b o (Nat.ne_of_lt (Nat.lt_of_lt_of_le hb' hbig)) e) ?_, fun b o e n n' => hs.extBut b o (Nat.ne_of_lt (Nat.lt_of_lt_of_le (Heap.lt_size e) hb)) (t.keep b o e n n'),
    t.os, t.bare, t.mu0, t.mu0lt, t.mu1, ?_, t.mu72, t.ge, t.pr72, t.prM,
    t.frame.put hx hh r hp (fun b o n e => hs.extBut b o n e) hcell hvar⟩
  rotate_left
  · intro a q
    by_cases h : a = p
    · subst h
      exact hlive
    · obtain ⟨o, e⟩ := t.live a q
      exact ⟨o, hs.extBut a o h e⟩
  obtain ⟨ps, a, b⟩ := t.g.tab
  have n1 : (76 : Nat) ≠ p := Nat.ne_of_lt (Nat.lt_of_lt_of_le (by decide) hbig)
  have n2 : (72 : Nat) ≠ p := Nat.ne_of_lt (Nat.lt_of_lt_of_le (by decide) hbig)
  exact ⟨ps, a.extBut hs.extBut n1 n2, b.extBut hs.extBut n1 n2⟩

theorem wp_store' {μ : Addr → Prop} {s : Shared} {x : Str} {l : LV} {v : Value} {R : Unit → Shared → Prop} (t : StM c μ ρ s) (hx : Storable c x) (hh : Held c μ ρ x l) (r : l.Rep c.w μ s.heap v)
    (h : ∀ s', StM c μ (upd ρ x l) s' → Mv c μ μ s s' → (∀ b o, b ∉ c.fp → s.heap.get? b = some o → s'.heap.get? b = some o) → R () s') : wpAny (model PG c.w) c.A (storeName c.env x v) R NoE s := by
  obtain ⟨ok, hk | ⟨hk, cl, hl, hb⟩⟩ := hx
  · obtain ⟨m₀, hn₀, _⟩ := t.frame.var
    refine wpAny_storeName_local hk hn₀ (fun h' hn hs => h _ ?_ ⟨fun b o n e => hs.extBut b o (by rintro rfl; exact n.elim (fun n => n t.frame.muL) (t.frame.prL _ List.mem_cons_self)) e, fun _ _ _ n => n⟩ (fun b o n e => hs.extBut b o (fun z => n (z ▸ List.mem_cons_self)) e)) (by rw [t.frame.kind]; rfl)
    refine t.put ok hh r List.mem_cons_self t.frame.baseL hs (let ⟨o, _, _, ho, _⟩ := hn; ⟨o, ho⟩) (fun y cl e => ?_) fun m hm => ?_
    · obtain ⟨u, q⟩ := t.frame.cells y cl e
      exact ⟨u, q.sameBut hs (t.frame.cellsL _ (mem_of_lookup e))⟩
    · refine ⟨_, hn, .inl ⟨hk, by simp⟩, fun y u hne va => ?_⟩
      rcases va with ⟨k, e⟩ | ⟨k, cl, e1, e2⟩
      · refine .inl ⟨k, ?_⟩
        show (if y = x then some v else m₀ y) = some u
        rw [if_neg hne]
        have : m = m₀ := by
          obtain ⟨o, es, ep, a1, a2, a3, a4⟩ := hm
          obtain ⟨o', es', ep', b1, b2, b3, b4⟩ := hn₀
          rw [a1] at b1; cases b1
          rw [a2] at b2; cases b2
          funext z; rw [← a4, ← b4]
        rw [← this]; exact e
      · exact .inr ⟨k, cl, e1, e2.sameBut hs (t.frame.cellsL _ (mem_of_lookup e1))⟩
  · obtain ⟨u, hu⟩ := t.frame.cells x cl hl
    have hcp : cl ∈ c.fp := List.mem_cons_of_mem _ (List.mem_map.mpr ⟨_, mem_of_lookup hl, rfl⟩)
    refine wpAny_storeName_cell t.frame.kind hk hl hu fun h' hc hs => h _ ?_ ⟨fun b o n e => hs.extBut b o (by rintro rfl; exact n.elim (fun n => n (t.frame.cellsM _ (mem_of_lookup hl))) (t.frame.prL _ hcp)) e, fun _ _ _ n => n⟩ (fun b o n e => hs.extBut b o (fun z => n (z ▸ hcp)) e)
    have hL : c.env.locals ≠ cl := fun e => t.frame.cellsL _ (mem_of_lookup hl) e.symm
    refine t.put (tk := s.toks) ok hh r (List.mem_cons_of_mem _ (List.mem_map.mpr ⟨_, mem_of_lookup hl, rfl⟩)) hb hs (let ⟨o, ho, _⟩ := hc; ⟨o, ho⟩) (fun y cl' e => ?_) fun m hm => ?_
    · by_cases hq : cl' = cl
      · subst hq; exact ⟨_, hc⟩
      · obtain ⟨u, q⟩ := t.frame.cells y cl' e
        exact ⟨u, q.sameBut hs hq⟩
    · refine ⟨m, hm.sameBut hs hL, .inr ⟨.inl hk, cl, hl, hc⟩, fun y u hne va => ?_⟩
      rcases va with ⟨k, e⟩ | ⟨k, cl', e1, e2⟩
      · exact .inl ⟨k, e⟩
      · exact .inr ⟨k, cl', e1, e2.sameBut hs fun e => hne (lookup_inj t.frame.apart (e ▸ e1) hl)⟩

theorem wp_store {μ : Addr → Prop} {s : Shared} {x : Str} {l : LV} {v : Value} {R : Unit → Shared → Prop} (t : StM c μ ρ s) (hx : Storable c x) (hh : Held c μ ρ x l) (r : l.Rep c.w μ s.heap v)
    (h : ∀ s', StM c μ (upd ρ x l) s' → Mv c μ μ s s' → R () s') : wpAny (model PG c.w) c.A (storeName c.env x v) R NoE s := wp_store' t hx hh r fun s' a b _ => h s' a b

theorem X_assign {x : Str} {p pos : Pos} {e : Expr} {d : D} (h : Ev c ρ e d) (hx : Storable c x) (hq : Q (.next (upd ρ x (.fz d)))) (hs : swapsWith e (some (.Name x p)) pos.line c.env = pure false := by rfl) :
    X c ρ (.Assign [.Name x p] e pos) Q := fun μ s t =>
  wpAny_Assign_Name (wpAny_mono (h μ s t) (fun v s1 q => wp_store (t.ext q.1) hx .fz q.2 fun s' t' mv => ⟨_, μ, hq, ⟨rfl, t'⟩, (t.mv q.1).trans mv⟩) fun _ _ x => x) hs
theorem X_if {test : Expr} {body orelse : List Stmt} {pos : Pos} {b : Bool} (h : Tst c ρ test b) (ht : b = true → W c ρ body Q) (he : b = false → W c ρ orelse Q) : X c ρ (.If test body orelse pos) Q := fun μ s t =>
  wpAny_If (wpAny_mono (h μ s t) (fun r s1 q => by
    obtain ⟨q1, rfl⟩ := q
    cases r with
    | true => exact wpAny_mono (ht rfl μ s1 (t.ext q1)) (fun _ _ e => e.trans (t.mv q1)) fun _ _ x => x
    | false => exact wpAny_mono (he rfl μ s1 (t.ext q1)) (fun _ _ e => e.trans (t.mv q1)) fun _ _ x => x) fun _ _ x => x)
theorem X_ret {e : Expr} {pos : Pos} {d : D} (h : Ev c ρ e d) (hq : Q (.ret d ρ)) : X c ρ (.Return (some e) pos) Q := fun μ s t =>
  wpAny_Return_some (wpAny_mono (h μ s t) (fun v s1 q => ⟨_, μ, hq, ⟨v, rfl, t.ext q.1, q.2⟩, t.mv q.1⟩) fun _ _ x => x)
theorem X_break {pos : Pos} (hq : Q (.brk ρ)) : X c ρ (.Break pos) Q := fun μ s t => wpAny_Break ⟨_, μ, hq, ⟨rfl, t⟩, .refl⟩
theorem X_continue {pos : Pos} (hq : Q (.cont ρ)) : X c ρ (.Continue pos) Q := fun μ s t => wpAny_Continue ⟨_, μ, hq, ⟨rfl, t⟩, .refl⟩

theorem W_assign {x : Str} {p pos : Pos} {e : Expr} {d : D} {rest : List Stmt} (h : Ev c ρ e d) (hx : Storable c x) (hq : W c (upd ρ x (.fz d)) rest Q) (hs : swapsWith e (some (.Name x p)) pos.line c.env = pure false := by rfl) :
    W c ρ (.Assign [.Name x p] e pos :: rest) Q := W_cons (X_assign h hx hq hs)
theorem W_if {test : Expr} {body orelse rest : List Stmt} {pos : Pos} {b : Bool} (h : Tst c ρ test b) (ht : b = true → W c ρ body (After c rest Q)) (he : b = false → W c ρ orelse (After c rest Q)) :
    W c ρ (.If test body orelse pos :: rest) Q := W_cons (X_if h ht he)
theorem W_end {rest : List Stmt} (h : W c ρ rest Q) : W c ρ [] (After c rest Q) := W_nil h
theorem W_ret {e : Expr} {pos : Pos} {d : D} {rest : List Stmt} (h : Ev c ρ e d) (hq : Q (.ret d ρ)) : W c ρ (.Return (some e) pos :: rest) Q := W_cons (X_ret h hq)
theorem W_break {pos : Pos} {rest : List Stmt} (hq : Q (.brk ρ)) : W c ρ (.Break pos :: rest) Q := W_cons (X_break hq)
theorem W_continue {pos : Pos} {rest : List Stmt} (hq : Q (.cont ρ)) : W c ρ (.Continue pos :: rest) Q := W_cons (X_continue hq)
end
end Mine
end

noncomputable section -- MF
open PySem PyProof.Rows
set_option maxRecDepth 100000
namespace Mine

structure MuOk (μ : Addr → Prop) (h : Heap) : Prop where
  t : μ 72
  live : ∀ a, μ a → ∃ o, h.get? a = some o
  ge : ∀ a, μ a → Big a ∨ a = 72 ∨ a = 145

noncomputable def Fn (w : World) (f : Value) (n : Nat) (spec : List D → D → Prop) : Prop :=
  ∀ (A : Around) (μ : Addr → Prop) (s : Shared) (vs : List Value) (ds : List D) (d : D), Room A n → G w s.heap → MuOk μ s.heap → RpL w μ s.heap vs ds → spec ds d →
    wpAny (model PG w) A (call f vs) (fun v s' => Ext s s' ∧ Rp w μ s'.heap v d) NoE s

theorem StM.muOk {c : Cx} {μ : Addr → Prop} {ρ : Loc} {s : Shared} (t : StM c μ ρ s) : MuOk μ s.heap := ⟨t.mu72, t.live, t.ge⟩

noncomputable def locOf : Loc → List Str → List D → Loc
  | ρ, p :: ps, d :: ds => locOf (upd ρ p (.fz d)) ps ds
  | ρ, _, _ => ρ

theorem bindL_last (k : Str → Option NameKind) (x : Str) (hk : k x = some .local) : ∀ (b : List (Str × Value)) (m : Str → Option Value), bindL k b m x = (match b.reverse.lookup x with | some v => some v | none => m x)
  | [], m => rfl
  | (n, v) :: b, m => by
    rw [bindL, bindL_last k x hk b]
    rw [List.reverse_cons, List.lookup_append]
    cases b.reverse.lookup x with
    | some u => rfl
    | none =>
      by_cases hx : x = n
      · subst hx; simp [hk]
      · have : (x == n) = false := beq_eq_false_iff_ne.mpr hx
        simp only [List.lookup_cons, this, List.lookup_nil, Option.or_none]
        split <;> simp [hx]
theorem bindC_last (k : Str → Option NameKind) (x : Str) (hk : ¬ k x = some .local) : ∀ (b : List (Str × Value)) (m : Str → Option Value), bindC k b m x = (match b.reverse.lookup x with | some v => some v | none => m x)
  | [], m => rfl
  | (n, v) :: b, m => by
    rw [bindC, bindC_last k x hk b]
    rw [List.reverse_cons, List.lookup_append]
    cases b.reverse.lookup x with
    | some u => rfl
    | none =>
      by_cases hx : x = n
      · subst hx; simp [hk]
      · have : (x == n) = false := beq_eq_false_iff_ne.mpr hx
        simp only [List.lookup_cons, this, List.lookup_nil, Option.or_none]
        split <;> simp [hx]

theorem locOf_last {w : World} {μ : Addr → Prop} {h : Heap} (x : Str) : ∀ (ps : List Str) (vs : List Value) (ds : List D) (ρ : Loc) (l : LV), RpL w μ h vs ds → locOf ρ ps ds x = some l →
    (∃ v d, (ps.zip vs).reverse.lookup x = some v ∧ l = .fz d ∧ Rp w μ h v d) ∨ ((ps.zip vs).reverse.lookup x = none ∧ ρ x = some l)
  | [], vs, ds, ρ, l, r, e => by right; exact ⟨by simp, by simpa [locOf] using e⟩
  | p :: ps, vs, ds, ρ, l, r, e => by
    cases r with
    | nil => right; exact ⟨by simp, by simpa [locOf] using e⟩
    | @cons v vs d ds r1 r2 =>
      rw [locOf] at e
      simp only [List.zip_cons_cons, List.reverse_cons, List.lookup_append]
      rcases locOf_last x ps vs ds _ l r2 e with ⟨u, d', h1, h2, h3⟩ | ⟨h1, h2⟩
      · left; exact ⟨u, d', by rw [h1]; rfl, h2, h3⟩
      · rw [h1]
        unfold upd at h2
        by_cases hx : x = p
        · rw [if_pos hx] at h2; cases h2; subst hx
          left; exact ⟨v, d, by simp, rfl, r1⟩
        · rw [if_neg hx] at h2
          have : (x == p) = false := beq_eq_false_iff_ne.mpr hx
          right; exact ⟨by simp [List.lookup_cons, this], h2⟩

noncomputable def callCx (w : World) (A : Around) (n : Nat) (fd : FuncData) (a : Addr) (s : Shared) (μ : Addr → Prop) : Cx :=
  { rk := n, w := w, A := A.deeper (callEnvC fd s.heap.objs.size a), env := callEnvC fd s.heap.objs.size a, s₀ := s, μ₀ := μ, S := fun _ => False, pr := fun _ => False }

theorem cellsFrom_ge {n₀ : Nat} : ∀ (n : Nat) (names : List (Str × NameKind)) (acc : List (Str × Addr)), (∀ p ∈ acc, n₀ ≤ p.2) → n₀ ≤ n → ∀ p ∈ cellsFrom n names acc, n₀ ≤ p.2
  | n, [], acc, h, _ => h
  | n, (x, k) :: r, acc, h, hn => by
    unfold cellsFrom
    split
    · refine cellsFrom_ge (n + 1) r ((x, n) :: acc) (fun p hp => ?_) (Nat.le_succ_of_le hn)
      rcases List.mem_cons.mp hp with rfl | hp
      · exact hn
      · exact h p hp
    · exact cellsFrom_ge n r acc h hn
theorem cellsFrom_nodup : ∀ (n : Nat) (names : List (Str × NameKind)) (acc : List (Str × Addr)), (names.map (·.1)).Nodup → (acc.map (·.1)).Nodup → (∀ x ∈ names.map (·.1), x ∉ acc.map (·.1)) → ((cellsFrom n names acc).map (·.1)).Nodup
  | n, [], acc, _, h, _ => h
  | n, (x, k) :: r, acc, h1, h2, h3 => by
    rw [List.map_cons, List.nodup_cons] at h1
    unfold cellsFrom
    split
    · refine cellsFrom_nodup (n + 1) r ((x, n) :: acc) h1.2 ?_ fun y hy hy' => ?_
      · rw [List.map_cons, List.nodup_cons]
        exact ⟨h3 x List.mem_cons_self, h2⟩
      · rw [List.map_cons] at hy'
        rcases List.mem_cons.mp hy' with e | hy'
        · exact h1.1 (e ▸ hy)
        · exact h3 y (List.mem_cons_of_mem _ hy) hy'
    · exact cellsFrom_nodup n r acc h1.2 h2 fun y hy => h3 y (List.mem_cons_of_mem _ hy)
theorem cellsFrom_kind : ∀ (n : Nat) (names : List (Str × NameKind)) (acc : List (Str × Addr)) (p : Str × Addr), p ∈ cellsFrom n names acc → p ∈ acc ∨ (p.1, NameKind.cell) ∈ names
  | n, [], acc, p, h => .inl h
  | n, (y, k) :: r, acc, p, h => by
    unfold cellsFrom at h
    split at h
    · rename_i hk
      rcases cellsFrom_kind (n + 1) r _ p h with h | h
      · rcases List.mem_cons.mp h with rfl | h
        · have : k = .cell := by simpa using hk
          subst this; exact .inr List.mem_cons_self
        · exact .inl h
      · exact .inr (List.mem_cons_of_mem _ h)
    · rcases cellsFrom_kind n r acc p h with h | h
      · exact .inl h
      · exact .inr (List.mem_cons_of_mem _ h)
theorem cellsFrom_acc (x : Str) : ∀ (n : Nat) (names : List (Str × NameKind)) (acc : List (Str × Addr)), (acc.lookup x).isSome = true → ((cellsFrom n names acc).lookup x).isSome = true
  | n, [], acc, h => h
  | n, (y, k) :: r, acc, h => by
    unfold cellsFrom
    split
    · refine cellsFrom_acc x (n + 1) r _ ?_
      rw [List.lookup_cons]
      split
      · rfl
      · exact h
    · exact cellsFrom_acc x n r acc h
theorem cellsFrom_has (x : Str) : ∀ (n : Nat) (names : List (Str × NameKind)) (acc : List (Str × Addr)), names.lookup x = some .cell → ((cellsFrom n names acc).lookup x).isSome = true
  | n, [], acc, h => by cases h
  | n, (y, k) :: r, acc, h => by
    rw [List.lookup_cons] at h
    unfold cellsFrom
    cases hx : x == y with
    | true =>
      rw [hx] at h
      cases h
      refine cellsFrom_acc x (n + 1) r _ ?_
      rw [List.lookup_cons, hx]; rfl
    | false =>
      rw [hx] at h
      split
      · exact cellsFrom_has x (n + 1) r _ h
      · exact cellsFrom_has x n r acc h
theorem lookup_mem {α : Type} : ∀ {l : List (Str × α)}, (l.map (·.1)).Nodup → ∀ {p : Str × α}, p ∈ l → l.lookup p.1 = some p.2
  | q :: l, hn, p, hp => by
    rw [List.map_cons, List.nodup_cons] at hn
    rw [List.lookup_cons]
    rcases List.mem_cons.mp hp with rfl | hp
    · simp
    · have : (p.1 == q.1) = false := beq_eq_false_iff_ne.mpr fun e => hn.1 (e ▸ List.mem_map.mpr ⟨p, hp, rfl⟩)
      rw [this]; exact lookup_mem hn.2 hp

theorem Fn_intro {w : World} {a : Addr} {fd : FuncData} {n : Nat} {spec : List D → D → Prop} {body : List Stmt} {ps : List Str} (hm : (a, fd) ∈ fnTable) (hbody : fd.body = .stmts body)
    (hbind : ∀ vs : List Value, vs.length = ps.length → bindArgs fd ⟨vs, []⟩ = pure (ps.zip vs)) (hclo : fd.closure = [])
    (hlen : ∀ ds d, spec ds d → ds.length = ps.length)
    (hok : ∀ x ∈ ps, okName x = true)
    (hkind' : ∀ x ∈ ps, fd.scope.names.lookup x = some .local ∨ fd.scope.names.lookup x = some .cell)
    (hnd : (fd.scope.names.map (·.1)).Nodup)
    (hco : fd.scope.isCoroutine = false) (hgen : fd.scope.isGenerator = false) (hk : fd.scope.kind = .function) (hglob : fd.globals = 3) (hblt : fd.builtins = builtinsNs)
    (h : ∀ A μ s ds d, spec ds d → W (callCx w A n fd a s μ) (locOf Loc.nil ps ds) body (fun o => match o with | .ret d' _ => d' = d | _ => d = .none)) :
    Fn w (.ref a) (n + 1) spec := by
  have hkind : ∀ L, ∀ x ∈ ps, fd.scope.names.lookup x = some .local ∨ (fd.scope.names.lookup x = some .cell ∧ ((cellsFrom L fd.scope.names []).lookup x).isSome = true) :=
    fun L x hx => (hkind' x hx).imp (fun z => z) fun z => ⟨z, cellsFrom_has x L _ [] z⟩
  intro A μ s vs ds d hA hG hμ hr hs
  have hvl : vs.length = ps.length := by rw [hr.length]; exact hlen ds d hs
  obtain ⟨hfo, hcr⟩ := hG.fns _ hm
  refine wpAny_call ?_
  refine codeAny_call_cells (by show A.depth < 1000; have := hA.2.1; (first | lia | omega)) hfo rfl hG.lim hcr hbody (hbind vs hvl) hclo ?_ (fun s₁ x => ?_) hco hgen hk
  · intro p hp
    exact hkind _ p.1 (List.of_mem_zip hp).1
  · have L := x.toInCall
    obtain ⟨h₁, tk, e⟩ := L.same
    let c := callCx w A n fd a s μ
    let μ' : Addr → Prop := fun b => μ b ∨ b ∈ c.fp
    have hcell : ∀ p ∈ c.env.cells, s.heap.objs.size + 1 ≤ p.2 := fun p hp => cellsFrom_ge _ _ [] (fun _ h => nomatch h) (Nat.le_refl _) p hp
    have hfp : ∀ b ∈ c.fp, s.heap.objs.size ≤ b := fun b hb => by
      rcases List.mem_cons.mp hb with rfl | hb
      · exact Nat.le_refl _
      · obtain ⟨q, hq, rfl⟩ := List.mem_map.mp hb
        exact Nat.le_of_succ_le (hcell q hq)
    have hcn : (c.env.cells.map (·.1)).Nodup := cellsFrom_nodup _ _ [] hnd List.nodup_nil (fun _ _ h => by cases h)
    have hfl : ∀ b ∈ c.fp, ∃ o, s₁.heap.get? b = some o := fun b hb => by
      rcases List.mem_cons.mp hb with rfl | hb
      · obtain ⟨o, _, _, ho, _⟩ := L.ns; exact ⟨o, ho⟩
      · obtain ⟨q, hq, rfl⟩ := List.mem_map.mp hb
        obtain ⟨o, ho, _⟩ := x.cell _ _ (lookup_mem hcn hq); exact ⟨o, ho⟩
    have hE : Ext s s₁ := by rw [e] at L ⊢; exact Ext.of_keep L.keep
    have hliv : ∀ b, μ b → ∃ o, s₁.heap.get? b = some o := fun b q => by
      obtain ⟨o, e'⟩ := hμ.live b q
      exact ⟨o, L.keep b o e'⟩
    have t : StM c μ' (locOf Loc.nil ps ds) s₁ := by
      refine ⟨⟨hA.1, ?_, ?_⟩, hG.ext hE, fun b o e' _ n => hE.keep b o e' n, hE.os, hE.bare, fun _ q => .inl q, fun b q => (let ⟨_, e'⟩ := hμ.live b q; Heap.lt_size e'), fun b q => q.elim .inl fun q => .inr (hfp b q), fun b q => q.elim (fun q => hliv b q) (hfl b),
        .inl hμ.t, fun b q => q.elim (hμ.ge b) fun q => .inl (Nat.le_trans hG.size (hfp b q)), fun h => h, fun _ h => h.elim, ?_⟩
      · show A.depth + 1 + n < 900; have := hA.2.1; (first | lia | omega)
      · show A.units + 3 + 100 * n + 1000 < 9900; have := hA.2.2; (first | lia | omega)
      refine ⟨hk, hglob, hblt, .inr List.mem_cons_self, Nat.le_refl _, fun p hp => .inr (List.mem_cons_of_mem _ (List.mem_map.mpr ⟨p, hp, rfl⟩)), fun y cl e' => ⟨_, x.cell y cl e'⟩, (fun y cl e' z => by
          have h1 := cellsFrom_kind _ _ _ _ (mem_of_lookup e')
          rcases h1 with h1 | h1
          · cases h1
          · have h2 : fd.scope.names.lookup y = some .cell := lookup_mem hnd h1
            have h3 : fd.scope.names.lookup y = some .local := z
            rw [h2] at h3; cases h3), x.apart,
        fun p hp => Nat.ne_of_gt (hcell p hp), fun b hb => Nat.le_trans hG.size (hfp b hb), fun _ _ h => h, ?_, ?_, ?_⟩
      · refine ⟨_, L.ns, fun y l e' => ?_⟩
        rcases locOf_last y ps vs ds _ l hr e' with ⟨v, d', h1, rfl, h3⟩ | ⟨_, h2⟩
        · have hy : y ∈ ps := by
            have := mem_of_lookup h1
            exact (List.of_mem_zip (List.mem_reverse.mp this)).1
          refine ⟨hok y hy, v, ?_, ?_⟩
          · rcases hkind (s.heap.objs.size + 1) y hy with hl | ⟨hl, hc⟩
            · refine .inl ⟨hl, ?_⟩
              rw [bindL_last _ y hl, h1]
            · obtain ⟨cl, hc⟩ := Option.isSome_iff_exists.mp hc
              refine .inr ⟨.inl hl, cl, hc, ?_⟩
              have := x.cell y cl hc
              rw [bindC_last _ y (by intro z; rw [show (callEnvC fd s.heap.objs.size a).kindOf y = some .cell from hl] at z; cases z), h1] at this
              exact this
          · refine Rp.ext (c := c) (μ := μ') (.inl hμ.t) hE ?_
            exact Rp.grow (fun b o hb n => by
              rintro (z | z)
              · exact n z
              · exact Nat.not_lt.mpr (hfp b z) (Heap.lt_size hb)) h3
        · cases h2
      · intro y l e'
        rcases locOf_last y ps vs ds _ l hr e' with ⟨v, d', h1, rfl, h3⟩ | ⟨_, h2⟩
        · exact ⟨trivial, List.nodup_nil, fun _ h => by cases h⟩
        · cases h2
      · intro y z l k e' e'' _ b hb
        rcases locOf_last y ps vs ds _ l hr e' with ⟨v, d', h1, rfl, h3⟩ | ⟨_, h2⟩
        · cases hb
        · cases h2
    refine wpAny_mono (h A μ s ds d hs μ' s₁ t) (fun f s' q => ?_) fun _ _ z => z.elim
    obtain ⟨o, μ'', q, r, _⟩ := q
    have fin : ∀ (ρ' : Loc) (μ'' : Addr → Prop) (v : Value), StM c μ'' ρ' s' → Rp w μ'' s'.heap v d → Ext s s' ∧ Rp w μ s'.heap v d := fun ρ' μ'' v t' r' =>
      ⟨⟨fun b o e n => t'.keep b o e (fun z => z) n, t'.os, t'.bare, fun _ => t'.g.tab⟩, Rp.keep (fun b n z => n (t'.mu0 b z)) (fun _ _ _ e => e) r'⟩
    cases o with
    | next ρ' => obtain ⟨rfl, t'⟩ := r; cases (q : d = .none); exact fin ρ' μ'' _ t' .none
    | brk ρ' => obtain ⟨rfl, t'⟩ := r; cases (q : d = .none); exact fin ρ' μ'' _ t' .none
    | cont ρ' => obtain ⟨rfl, t'⟩ := r; cases (q : d = .none); exact fin ρ' μ'' _ t' .none
    | ret d' ρ' => obtain ⟨v, rfl, t', r'⟩ := r; cases (q : d' = d); exact fin ρ' μ'' _ t' r'
end Mine
end

noncomputable section -- MG
open PySem PyProof.Rows
set_option maxRecDepth 100000
namespace Mine

noncomputable def Cx.guard (c : Cx) (g : Addr) : Cx := { c with pr := fun a => c.pr a ∨ a = g }

section
variable {c : Cx} {ρ : Loc} {μ : Addr → Prop} {s s' : Shared}

theorem StM.grow (t : StM c μ ρ s) (x : Ext s s') {a : Addr} (h1 : s.heap.objs.size ≤ a) (h2 : ∃ o, s'.heap.get? a = some o) : StM c (fun b => μ b ∨ b = a) ρ s' := by
  have t' := t.ext x
  have hb : Big a := Nat.le_trans t.g.size h1
  refine ⟨t'.room, t'.g, t'.keep, t'.os, t'.bare, fun b q => .inl (t'.mu0 b q), t'.mu0lt, fun b q => q.elim (t'.mu1 b) fun e => .inr (e ▸ Nat.le_trans t.size h1), fun b q => q.elim (t'.live b) fun e => e ▸ h2, .inl t'.mu72,
    fun b q => q.elim (t'.ge b) fun e => .inl (e ▸ hb), t'.pr72, fun b q => .inl (t'.prM b q), ?_⟩
  refine t.frame.move (fun _ q => .inl q) (fun b o hb n => ?_) fun b o hb e => x.keep b o e (by
    rintro rfl
    rcases hb with hb | hb | ⟨y, l, e1, e2⟩
    · exact hb t.mu72
    · exact absurd (t.frame.big _ hb) (by decide)
    · exact absurd ((t.frame.own y l e1).2.2 _ e2).2.2.2.2 (by decide))
  rintro (z | z)
  · exact n z
  · exact absurd (Heap.lt_size hb) (Nat.not_lt.mpr (z ▸ h1))
theorem Mv.grow (t : StM c μ ρ s) (x : Ext s s') {a : Addr} (h1 : s.heap.objs.size ≤ a) : Mv c μ (fun b => μ b ∨ b = a) s s' :=
  ⟨(t.mv x).frz, fun b o hb n z => z.elim n fun e => absurd (Heap.lt_size hb) (Nat.not_lt.mpr (e ▸ h1))⟩
theorem StM.poke {h' : Heap} {tk : Nat} {g : Addr} (t : StM c μ ρ s) (hg : μ g) (hk : ∀ b o, b ≠ g → s.heap.get? b = some o → h'.get? b = some o) (hlive : ∃ o, h'.get? g = some o)
    (hb : c.s₀.heap.objs.size ≤ g) (hbig : Big g) (hfp : g ∉ c.fp) (hown : ∀ x l, ρ x = some l → g ∉ l.adr) : StM c μ ρ { s with heap := h', toks := tk } := by
  have n1 : (76 : Nat) ≠ g := Nat.ne_of_lt (Nat.lt_of_lt_of_le (by decide) hbig)
  have n2 : (72 : Nat) ≠ g := Nat.ne_of_lt (Nat.lt_of_lt_of_le (by decide) hbig)
  have hx : Heap.ExtBut g s.heap h' := fun b o n e => hk b o n e
  refine ⟨t.room, t.g.mod (fun b o hb' n _ e => hk b o (Nat.ne_of_lt (Nat.lt_of_lt_of_le hb' hbig)) e) ?_, fun b o e n n' => hk b o (Nat.ne_of_lt (Nat.lt_of_lt_of_le (Heap.lt_size e) hb)) (t.keep b o e n n'),
    t.os, t.bare, t.mu0, t.mu0lt, t.mu1, ?_, t.mu72, t.ge, t.pr72, t.prM, ?_⟩
  · obtain ⟨ps, a, b⟩ := t.g.tab
    exact ⟨ps, a.extBut hx n1 n2, b.extBut hx n1 n2⟩
  · intro a q
    by_cases h : a = g
    · exact h ▸ hlive
    · obtain ⟨o, e⟩ := t.live a q
      exact ⟨o, hk a o h e⟩
  · refine t.frame.move (fun _ q => q) (fun _ _ _ n => n) fun b o hc e => hk b o ?_ e
    rintro rfl
    rcases hc with hc | hc | ⟨y, l, e1, e2⟩
    · exact hc hg
    · exact hfp hc
    · exact hown y l e1 e2

theorem FrameSt.shrink {h : Heap} {μ' : Addr → Prop} (f : FrameSt c μ ρ h) (h1 : ∀ a, μ' a → μ a) (h2 : ∀ a ∈ c.fp, μ' a) (h3 : ∀ x l, ρ x = some l → ∀ a ∈ l.adr, μ' a) : FrameSt c μ' ρ h where
  kind := f.kind
  glob := f.glob
  blt := f.blt
  muL := h2 _ List.mem_cons_self
  baseL := f.baseL
  cellsM := fun p hp => h2 _ (List.mem_cons_of_mem _ (List.mem_map.mpr ⟨p, hp, rfl⟩))
  cells := f.cells
  cellK := f.cellK
  apart := f.apart
  cellsL := f.cellsL
  big := f.big
  prL := f.prL
  var := by
    obtain ⟨m, hn, hv⟩ := f.var
    refine ⟨m, hn, fun x l e => ?_⟩
    obtain ⟨ok, v, va, r⟩ := hv x l e
    exact ⟨ok, v, va, r.keep (f.own x l e).1 (fun a _ _ n z => n (h1 a z)) fun _ _ _ e => e⟩
  own := fun x l e => ⟨(f.own x l e).1, (f.own x l e).2.1, fun a ha => ⟨h3 x l e a ha, ((f.own x l e).2.2 a ha).2⟩⟩
  sep := f.sep

theorem StM.pokeDrop {h' : Heap} {tk : Nat} {g : Addr} (t : StM c μ ρ s) (hg : μ g) (hk : ∀ b o, b ≠ g → s.heap.get? b = some o → h'.get? b = some o)
    (hb : c.s₀.heap.objs.size ≤ g) (hbig : Big g) (hfp : g ∉ c.fp) (hown : ∀ x l, ρ x = some l → g ∉ l.adr) (h0 : ¬ c.μ₀ g) (hpr : ¬ c.pr g) : StM c (fun b => μ b ∧ b ≠ g) ρ { s with heap := h', toks := tk } := by
  have n1 : (76 : Nat) ≠ g := Nat.ne_of_lt (Nat.lt_of_lt_of_le (by decide) hbig)
  have n2 : (72 : Nat) ≠ g := Nat.ne_of_lt (Nat.lt_of_lt_of_le (by decide) hbig)
  have hx : Heap.ExtBut g s.heap h' := fun b o n e => hk b o n e
  have hfm : ∀ a ∈ c.fp, μ a := fun a z => by
    rcases List.mem_cons.mp z with e | z
    · exact e ▸ t.frame.muL
    · obtain ⟨q, hq, e⟩ := List.mem_map.mp z; exact e ▸ t.frame.cellsM q hq
  refine ⟨t.room, t.g.mod (fun b o hb' n _ e => hk b o (Nat.ne_of_lt (Nat.lt_of_lt_of_le hb' hbig)) e) ?_, fun b o e n n' => hk b o (Nat.ne_of_lt (Nat.lt_of_lt_of_le (Heap.lt_size e) hb)) (t.keep b o e n n'),
    t.os, t.bare, fun a q => ⟨t.mu0 a q, fun e => h0 (e ▸ q)⟩, t.mu0lt, fun a q => t.mu1 a q.1, ?_, ⟨t.mu72, n2⟩, fun a q => t.ge a q.1, t.pr72, fun a q => ⟨t.prM a q, fun e => hpr (e ▸ q)⟩, ?_⟩
  · obtain ⟨ps, a, b⟩ := t.g.tab
    exact ⟨ps, a.extBut hx n1 n2, b.extBut hx n1 n2⟩
  · intro a q
    obtain ⟨o, e⟩ := t.live a q.1
    exact ⟨o, hk a o q.2 e⟩
  · refine (t.frame.move (h' := h') (fun _ q => q) (fun _ _ _ n => n) fun b o hc e => hk b o ?_ e).shrink (fun _ q => q.1) (fun a z => ⟨hfm a z, fun e => hfp (e ▸ z)⟩) fun x l e a ha => ⟨((t.frame.own x l e).2.2 a ha).1, fun e' => hown x l e (e' ▸ ha)⟩
    rintro rfl
    rcases hc with hc | hc | ⟨y, l, e1, e2⟩
    · exact hc hg
    · exact hfp hc
    · exact hown y l e1 e2

theorem StM.guard {g : Addr} (t : StM c μ ρ s) (hg : μ g) (hn : g ≠ 72) (hfp : g ∉ c.fp) (hown : ∀ x l, ρ x = some l → g ∉ l.adr) : StM (c.guard g) μ ρ s := by
  refine ⟨t.room, t.g, t.keep, t.os, t.bare, t.mu0, t.mu0lt, t.mu1, t.live, t.mu72, t.ge, fun z => z.elim t.pr72 fun e => hn e.symm, fun a z => z.elim (t.prM a) fun e => e ▸ hg, ?_⟩
  have f := t.frame
  exact ⟨f.kind, f.glob, f.blt, f.muL, f.baseL, f.cellsM, f.cells, f.cellK, f.apart, f.cellsL, f.big, fun a ha z => z.elim (f.prL a ha) fun e => hfp (e ▸ ha), f.var, fun x l e =>
    ⟨(f.own x l e).1, (f.own x l e).2.1, fun a ha => let ⟨p, q, r, u⟩ := (f.own x l e).2.2 a ha; ⟨p, q, fun z => z.elim r fun e' => hown x l e (e' ▸ ha), u⟩⟩, f.sep⟩
theorem StM.unguard {g : Addr} (t : StM (c.guard g) μ ρ s) : StM c μ ρ s := by
  refine ⟨t.room, t.g, t.keep, t.os, t.bare, t.mu0, t.mu0lt, t.mu1, t.live, t.mu72, t.ge, fun z => t.pr72 (.inl z), fun a z => t.prM a (.inl z), ?_⟩
  have f := t.frame
  exact ⟨f.kind, f.glob, f.blt, f.muL, f.baseL, f.cellsM, f.cells, f.cellK, f.apart, f.cellsL, f.big, fun a ha z => f.prL a ha (.inl z), f.var, fun x l e =>
    ⟨(f.own x l e).1, (f.own x l e).2.1, fun a ha => let ⟨p, q, r, u⟩ := (f.own x l e).2.2 a ha; ⟨p, q, fun z => r (.inl z), u⟩⟩, f.sep⟩
theorem Mv.unguard {g : Addr} {μ' : Addr → Prop} (x : Mv (c.guard g) μ μ' s s') : Mv c μ μ' s s' := ⟨fun b o n e => x.frz b o (n.imp (fun z => z) .inl) e, x.mu⟩

theorem Walks_len {prog : Program} {w : World} {A : Around} {I : Addr} {fp wr : List Addr} {n n' : Nat} {P : Nat → Value → Prop} {St : Nat → Heap → Prop} (W : Walks prog w A I fp wr n P St) (e : n = n') : Walks prog w A I fp wr n' P St := e ▸ W

noncomputable def Itb (c : Cx) (ρ : Loc) (P1 : VP) (ds : List D) : Prop :=
  ∀ μ s v, StM c μ ρ s → P1 μ s.heap v → wpAny (model PG c.w) c.A (pyIter v) (fun it s' => Ext s s' ∧ ∃ I fp P Sx, it = .ref I ∧ Walks PG c.w c.A I fp [I] ds.length P Sx ∧ Sx 0 s'.heap ∧
    s.heap.objs.size ≤ I ∧ (∀ i h, Sx i h → ∃ o, h.get? I = some o) ∧ (∀ b ∈ fp, b = I ∨ (¬ μ b ∧ ∃ o, s.heap.get? b = some o)) ∧ ∀ i v d, P i v → ds[i]? = some d → Rp c.w μ s.heap v d) NoE s

theorem Itb.list {ds : List D} : Itb c ρ (isD c.w (.lst ds)) ds := fun μ s v t r => by
  cases r using Rp.elimLst with
  | @lst a vs n ha e r =>
    have hl : s.heap.IsList a vs := ⟨_, e, rfl, n, rfl⟩
    have hne : a ≠ s.heap.objs.size := Nat.ne_of_lt (Heap.lt_size e)
    have hlen : vs.size = ds.length := by rw [← r.length]; simp
    refine wpAny_pyIter_list hl ⟨Ext.push s _ s.toks, _, _, _, _, rfl, Walks_len (Walks.list t.room.1 _ a hne vs) hlen, ⟨⟨_, Heap.get?_push_size _ rfl, rfl, rfl⟩, hl.push _⟩, Nat.le_refl _, (fun _ _ q => let ⟨o, e, _⟩ := q.1; ⟨o, e⟩), ?_, ?_⟩
    · intro b hb
      rcases List.mem_cons.mp hb with rfl | hb
      · exact .inl rfl
      · rw [List.mem_singleton.mp hb]; exact .inr ⟨ha, _, e⟩
    · intro i u d hu hd
      obtain ⟨v', h1, h2⟩ := r.get hd
      have : vs.toList[i]? = some u := by simpa using hu
      rw [h1] at this; cases this; exact h2
noncomputable def signs (x : Str) : List D := x.cps.toList.map fun n => .str ⟨#[n]⟩
theorem Itb.str {x : Str} : Itb c ρ (isD c.w (.str x)) (signs x) := fun μ s v t r => by
  cases r using Rp.elimStr with
  | str tk =>
    have hlen : x.cps.size = (signs x).length := by simp [signs]
    have fin : ∀ i v d, SignAt x i v → (signs x)[i]? = some d → Rp c.w μ s.heap v d := by
      rintro i u d ⟨k, tk, hk, rfl⟩ hd
      have : (signs x)[i]? = some (.str ⟨#[k]⟩) := by unfold signs; rw [List.getElem?_map]; simp [hk]
      rw [this] at hd; cases hd; exact .str _ _
    cases ha : x.cps.all (· < 128)
    · refine wpAny_pyIter_wide ha ⟨Ext.push s _ s.toks, _, _, _, _, rfl, Walks_len (Walks.strWide t.room.1 _ x tk) hlen, ⟨_, Heap.get?_push_size _ rfl, rfl, rfl⟩, Nat.le_refl _, (fun _ _ q => let ⟨o, e, _⟩ := q; ⟨o, e⟩), fun b hb => .inl (List.mem_singleton.mp hb), ?_⟩
      exact fin
    · refine wpAny_pyIter_ascii ha ⟨Ext.push s _ s.toks, _, _, _, _, rfl, Walks_len (Walks.strAscii t.room.1 _ x tk) hlen, ⟨_, Heap.get?_push_size _ rfl, rfl, rfl⟩, Nat.le_refl _, (fun _ _ q => let ⟨o, e, _⟩ := q; ⟨o, e⟩), fun b hb => .inl (List.mem_singleton.mp hb), ?_⟩
      exact fin
theorem Itb.keys {ds : List (Str × D)} : Itb c ρ (isD c.w (.dct ds)) (ds.map fun p => .str p.1) := fun μ s v t r => by
  cases r using Rp.elimDct with
  | @dct a kvs ha hs e r =>
    obtain ⟨ep, e'⟩ := e.dictAt
    have hlt := e'.lt_size
    have hne : a ≠ s.heap.objs.size := Nat.ne_of_lt hlt
    have hlen : kvs.length = (ds.map fun p => D.str p.1).length := by rw [List.length_map, r.length]
    refine wpAny_pyIter_dict hs e' ⟨Ext.push s _ s.toks, _, _, _, _, rfl, Walks_len (Walks.dictKeys t.room.1 _ a hne kvs ep) hlen, ⟨⟨_, Heap.get?_push_size _ rfl, rfl, rfl⟩, e'.push _⟩, Nat.le_refl _, (fun _ _ q => let ⟨o, e, _⟩ := q.1; ⟨o, e⟩), ?_, ?_⟩
    · intro b hb
      rcases List.mem_cons.mp hb with rfl | hb
      · exact .inl rfl
      · rw [List.mem_singleton.mp hb]; exact .inr ⟨ha, let ⟨o, _, ho, _⟩ := e'; ⟨o, ho⟩⟩
    · rintro i u d ⟨k, z, hk, hu⟩ hd
      obtain ⟨tk, rfl⟩ := Value.isStrOf_shape hu
      have h1 : (kvs.map (·.1))[i]? = some k := by rw [List.getElem?_map, hk]; rfl
      rw [r.keys, List.getElem?_map] at h1
      rw [List.getElem?_map] at hd
      cases hq : ds[i]? with
      | none => rw [hq] at h1; cases h1
      | some p => rw [hq] at h1 hd; cases h1; cases hd; exact .str _ _

theorem X_for {Q : Out → Prop} {x : Str} {px pos : Pos} {iter : Expr} {body : List Stmt} {P1 : VP} {ds : List D} (J : Nat → Loc → Prop) (h1 : EvV c ρ iter P1) (h2 : Itb c ρ P1 ds) (hx : Storable c x) (h0 : J 0 ρ)
    (step : ∀ i d ρ' g, ds[i]? = some d → J i ρ' → W (c.guard g) (upd ρ' x (.fz d)) body (Turn (J (i + 1)) Q))
    (done : ∀ ρ', J ds.length ρ' → Q (.next ρ')) (hs : ∀ v, foldedSetIterable iter c.env v = pure v := by intro _; rfl) : X c ρ (.For (.Name x px) iter body [] pos) Q := fun μ s t => by
  refine wpAny_For (wpAny_mono (h1 μ s t) (fun v s₁ q1 => ?_) fun _ _ x => x) hs
  refine wpAny_mono (h2 μ s₁ v (t.ext q1.1) q1.2) (fun it s₂ q2 => ?_) fun _ _ x => x
  obtain ⟨hE, I, fp, P, Sx, rfl, Wk, hS, hI1, hIl, hfp, hitem⟩ := q2
  have t1 := t.ext q1.1
  have hIfp : I ∉ c.fp := fun z => by
    have : μ I := by
      rcases List.mem_cons.mp z with e | z
      · exact e ▸ t.frame.muL
      · obtain ⟨q, hq, e⟩ := List.mem_map.mp z; exact e ▸ t.frame.cellsM q hq
    exact Nat.not_lt.mpr hI1 (t1.lt I this)
  have hI72 : I ≠ 72 := fun e => Nat.not_lt.mpr hI1 (t1.lt I (e ▸ t.mu72))
  have hIown : ∀ y l, ρ y = some l → I ∉ l.adr := fun y l e z => Nat.not_lt.mpr hI1 (t1.lt I ((t.frame.own y l e).2.2 I z).1)
  have hIb : c.s₀.heap.objs.size ≤ I := Nat.le_trans t1.size hI1
  have hIB : Big I := Nat.le_trans t1.g.size hI1
  have t2 : StM c (fun b => μ b ∨ b = I) ρ s₂ := t1.grow hE hI1 (hIl 0 _ hS)
  have t2g : StM (c.guard I) (fun b => μ b ∨ b = I) ρ s₂ := t2.guard (.inr rfl) hI72 hIfp hIown
  have mv2 : Mv c μ (fun b => μ b ∨ b = I) s s₂ := (t.mv q1.1).trans (.grow t1 hE hI1)
  have mv12 : Mv c μ (fun b => μ b ∨ b = I) s₁ s₂ := .grow t1 hE hI1
  have hprI : ¬ c.pr I := fun z => Nat.not_lt.mpr hI1 (t1.lt I (t1.prM I z))
  have h0I : ¬ c.μ₀ I := fun z => Nat.not_lt.mpr hI1 (t1.lt I (t1.mu0 I z))
  refine codeAny_forLoop (fun n s' => ∃ μ' ρ' i, StM (c.guard I) μ' ρ' s' ∧ J i ρ' ∧ Sx i s'.heap ∧ Mv c (fun b => μ b ∨ b = I) μ' s₂ s' ∧ i ≤ ds.length ∧ n = ds.length + 1 - i) ?_ (ds.length + 1)
    ⟨_, ρ, 0, t2g, h0, hS, .refl, Nat.zero_le _, rfl⟩
  rintro n s' ⟨μ', ρ', i, t', hJ, hSx, mv, hi, rfl⟩
  have hμI : μ' I := t'.prM I (.inr rfl)
  have hfp' : ∀ b ∈ fp, b = I ∨ ¬ μ' b := fun b hb => (hfp b hb).imp (fun z => z) fun ⟨z, o, ho⟩ => mv.mu b o (mv12.frz b o (.inl z) ho) fun q => q.elim z fun e => Nat.not_lt.mpr hI1 (e ▸ Heap.lt_size ho)
  have hown' : ∀ y l, ρ' y = some l → I ∉ l.adr := fun y l e z => ((t'.frame.own y l e).2.2 I z).2.2.1 (.inr rfl)
  by_cases hlt : i < ds.length
  · refine Wk.item i s' _ _ hlt hSx fun v h' tk hP hS' hk => ?_
    have hk' : ∀ b o, b ≠ I → s'.heap.get? b = some o → h'.get? b = some o := fun b o n e => hk b o (fun z => n (List.mem_singleton.mp z)) e
    have t3 : StM (c.guard I) μ' ρ' { s' with heap := h', toks := tk } := t'.poke hμI hk' (hIl _ _ hS') hIb hIB hIfp hown'
    have mv3 : Mv c (fun b => μ b ∨ b = I) μ' s₂ { s' with heap := h', toks := tk } := mv.trans ⟨fun b o n e => hk' b o (by rintro rfl; exact n.elim (fun n => n hμI) hprI) e, fun _ _ _ n => n⟩
    have hd : ds[i]? = some ds[i] := by simp [hlt]
    have hr : Rp c.w μ' h' v ds[i] := ((hitem i v _ hP hd).mv mv12).mv mv3
    refine wpAny_assign_Name (wpAny_mono (wp_store (c := c.guard I) (R := fun _ s4 => StM (c.guard I) μ' (upd ρ' x (.fz ds[i])) s4 ∧ Mv (c.guard I) μ' μ' { s' with heap := h', toks := tk } s4) t3 hx .fz hr fun s4 a b => ⟨a, b⟩) (fun _ s4 q => ?_) fun _ _ z => z.elim)
    obtain ⟨t4, mv4⟩ := q
    refine wpAny_mono (step i ds[i] ρ' I hd hJ μ' s4 t4) (fun f s5 q => ?_) fun _ _ z => z.elim
    obtain ⟨o, μ5, q, r, mv5⟩ := q
    have mv35 : Mv (c.guard I) μ' μ5 { s' with heap := h', toks := tk } s5 := mv4.trans mv5
    have mvT : Mv c (fun b => μ b ∨ b = I) μ5 s₂ s5 := mv3.trans mv35.unguard
    have hS5 : Sx (i + 1) s5.heap := Wk.frame _ _ _ hS' fun b hb o e => by
      rcases hfp' b hb with rfl | n
      · exact mv35.frz b o (.inr (.inr rfl)) e
      · exact mv35.frz b o (.inl n) e
    cases o with
    | next ρ'' => obtain ⟨rfl, r⟩ := r; exact ⟨ds.length + 1 - (i + 1), by (first | lia | omega), μ5, ρ'', i + 1, r, q, hS5, mvT, hlt, rfl⟩
    | cont ρ'' => obtain ⟨rfl, r⟩ := r; exact ⟨ds.length + 1 - (i + 1), by (first | lia | omega), μ5, ρ'', i + 1, r, q, hS5, mvT, hlt, rfl⟩
    | brk ρ'' => obtain ⟨rfl, r⟩ := r; exact ⟨_, μ5, q, ⟨rfl, r.unguard⟩, mv2.trans mvT⟩
    | ret d ρ'' => obtain ⟨v, rfl, r, rr⟩ := r; exact ⟨_, μ5, q, ⟨v, rfl, r.unguard, rr⟩, mv2.trans mvT⟩
  · have hin : i = ds.length := by (first | lia | omega)
    subst hin
    refine Wk.done s' _ _ hSx fun h' tk hk => ?_
    have hk' : ∀ b o, b ≠ I → s'.heap.get? b = some o → h'.get? b = some o := fun b o n e => hk b o (fun z => n (List.mem_singleton.mp z)) e
    have t3 : StM c (fun b => μ' b ∧ b ≠ I) ρ' { s' with heap := h', toks := tk } := t'.unguard.pokeDrop hμI hk' hIb hIB hIfp hown' h0I hprI
    have mv3 : Mv c (fun b => μ b ∨ b = I) (fun b => μ' b ∧ b ≠ I) s₂ { s' with heap := h', toks := tk } := mv.trans ⟨fun b o n e => hk' b o (by rintro rfl; exact n.elim (fun n => n hμI) hprI) e, fun _ _ _ n z => n z.1⟩
    exact wpAny_execs_nil ⟨_, _, done ρ' hJ, ⟨rfl, t3⟩, mv2.trans mv3⟩

theorem W_for {Q : Out → Prop} {x : Str} {px pos : Pos} {iter : Expr} {body rest : List Stmt} {P1 : VP} {ds : List D} (J : Nat → Loc → Prop) (h1 : EvV c ρ iter P1) (h2 : Itb c ρ P1 ds) (hx : Storable c x) (h0 : J 0 ρ)
    (step : ∀ i d ρ' g, ds[i]? = some d → J i ρ' → W (c.guard g) (upd ρ' x (.fz d)) body (Turn (J (i + 1)) (After c rest Q)))
    (done : ∀ ρ', J ds.length ρ' → W c ρ' rest Q) (hs : ∀ v, foldedSetIterable iter c.env v = pure v := by intro _; rfl) : W c ρ (.For (.Name x px) iter body [] pos :: rest) Q :=
  W_cons (X_for J h1 h2 hx h0 step done hs)
end
end Mine
end

noncomputable section -- MH
open PySem PyProof.Rows
set_option maxRecDepth 100000
namespace Mine

noncomputable def S (l : List Nat) : Str := ⟨l.toArray⟩
theorem S_append (a b : List Nat) : S a ++ S b = S (a ++ b) := by
  show Str.mk (a.toArray ++ b.toArray) = Str.mk _
  simp
theorem S_length (a : List Nat) : (S a).length = a.length := by show a.toArray.size = _; simp
theorem S_cps (a : List Nat) : (S a).cps.toList = a := rfl
theorem S_inj {a b : List Nat} (h : S a = S b) : a = b := by have := congrArg (fun x : Str => x.cps.toList) h; exact this
theorem Room.le {A : Around} {n m : Nat} (h : Room A n) (hm : m ≤ n) : Room A m := ⟨h.1, by have := h.2.1; (first | lia | omega), by have := h.2.2; (first | lia | omega)⟩

section
variable {c : Cx} {ρ : Loc} {μ : Addr → Prop} {s s' : Shared}

theorem EvV_glob {x : Str} {pos : Pos} {v : Value} (hg : (x, v) ∈ globTable) (hk : c.env.kindOf x = some .globalImplicit) (hd : (x == ("__debug__" : Str)) = false := by decide) : EvV c ρ (.Name x pos) (fun _ _ u => u = v) := fun μ s t => by
  obtain ⟨mg, hn, h1, _⟩ := t.g.glob
  exact Calls.Name_function_global t.frame.kind hk (Calls.loadGlobal_global (env := c.env) (t.frame.glob ▸ hn) (h1 _ hg) ⟨.refl _, rfl⟩) hd
theorem EvV_blt {x : Str} {pos : Pos} {v : Value} (hg : x ∈ builtNames) (hb : bootBuiltins x = some v) (hk : c.env.kindOf x = some .globalImplicit) (hne : x ≠ "__name__" := by decide) (hd : (x == ("__debug__" : Str)) = false := by decide) :
    EvV c ρ (.Name x pos) (fun _ _ u => u = v) := fun μ s t => by
  obtain ⟨mg, hn, _, h1⟩ := t.g.glob
  obtain ⟨mb, hn', h2⟩ := t.g.blt
  exact Calls.Name_function_global t.frame.kind hk (Calls.loadGlobal_builtin (env := c.env) (t.frame.glob ▸ hn) (h1 _ hg) (t.frame.blt ▸ hn') ((h2 x hne).trans hb) ⟨.refl _, rfl⟩) hd

theorem Ev_call {x : Str} {np pos : Pos} {e : Expr} {args : List Expr} {a : Addr} {fd : FuncData} {n : Nat} {spec : List D → D → Prop} {ds : List D} {d : D} (hf : Fn c.w (.ref a) n spec) (hg : (x, .ref a) ∈ globTable) (ha : (a, fd) ∈ fnTable)
    (hk : c.env.kindOf x = some .globalImplicit) (hargs : EvL c ρ pos (e :: args) ds) (hs : spec ds d) (hn : n ≤ c.rk) (hd : (x == ("__debug__" : Str)) = false := by decide)
    (he : starEach (e :: args) c.env = (false, eval e c.env) :: starEach args c.env := by rfl) : Ev c ρ (.Call (.Name x np) (e :: args) [] pos) d := fun μ s t => by
  refine Call_ (wpAny_mono (EvV_glob hg hk hd μ s t) (fun v s1 q => ?_) fun _ _ x => x)
  obtain ⟨q1, rfl⟩ := q
  refine callWith_def (o := fnObj fd) (fd := fd) rfl (wpAny_mono (hargs μ s1 (t.ext q1)) (fun vs s2 q2 => ?_) fun _ _ x => x) he
  have t2 := (t.ext q1).ext q2.1
  refine ⟨(t2.g.fns _ ha).1, wpAny_mono (hf c.A μ s2 vs ds d (t2.room.le hn) t2.g t2.muOk q2.2 hs) (fun _ _ q3 => ⟨(q1.trans q2.1).trans q3.1, q3.2⟩) fun _ _ x => x⟩

noncomputable def Op1 (c : Cx) (ρ : Loc) (f : Value → Sem Value) (P1 P : VP) : Prop :=
  ∀ μ s v, StM c μ ρ s → P1 μ s.heap v → wpAny (model PG c.w) c.A (f v) (fun r s' => Ext s s' ∧ P μ s'.heap r) NoE s
theorem EvV_b1 {x : Str} {np pos : Pos} {e : Expr} {id : String} {P1 P : VP} (h1 : EvV c ρ e P1) (ho : Op1 c ρ (fun v => call (.builtin id) [v]) P1 P) (hg : x ∈ builtNames) (hb : bootBuiltins x = some (.builtin id)) (hk : c.env.kindOf x = some .globalImplicit)
    (hne : x ≠ "__name__" := by decide) (hd : (x == ("__debug__" : Str)) = false := by decide)
    (he : starEach [e] c.env = [(false, eval e c.env)] := by rfl) : EvV c ρ (.Call (.Name x np) [e] [] pos) P := fun μ s t => by
  refine Call_ (wpAny_mono (EvV_blt hg hb hk hne hd μ s t) (fun v s1 q => ?_) fun _ _ x => x)
  obtain ⟨q1, rfl⟩ := q
  refine callWith_builtin1 (args_cons (wpAny_mono (h1 μ s1 (t.ext q1)) (fun v s2 q2 => args_nil (wpAny_mono (ho μ s2 v ((t.ext q1).ext q2.1) q2.2) (fun _ _ q3 => ⟨(q1.trans q2.1).trans q3.1, q3.2⟩) fun _ _ x => x)) fun _ _ x => x) he) he
theorem EvV_t1 {x : Str} {np pos : Pos} {e : Expr} {id : String} {P1 P : VP} (h1 : EvV c ρ e P1) (ho : Op1 c ρ (fun v => call (.type id) [v]) P1 P) (hg : x ∈ builtNames) (hb : bootBuiltins x = some (.type id)) (hk : c.env.kindOf x = some .globalImplicit)
    (hne : x ≠ "__name__" := by decide) (hd : (x == ("__debug__" : Str)) = false := by decide)
    (he : starEach [e] c.env = [(false, eval e c.env)] := by rfl) : EvV c ρ (.Call (.Name x np) [e] [] pos) P := fun μ s t => by
  refine Call_ (wpAny_mono (EvV_blt hg hb hk hne hd μ s t) (fun v s1 q => ?_) fun _ _ x => x)
  obtain ⟨q1, rfl⟩ := q
  refine callWith_type1 (args_cons (wpAny_mono (h1 μ s1 (t.ext q1)) (fun v s2 q2 => args_nil (wpAny_mono (ho μ s2 v ((t.ext q1).ext q2.1) q2.2) (fun _ _ q3 => ⟨(q1.trans q2.1).trans q3.1, q3.2⟩) fun _ _ x => x)) fun _ _ x => x) he) he
theorem EvV_b2 {x : Str} {np pos : Pos} {e e' : Expr} {id : String} {P1 P2 P : VP} (h1 : EvV c ρ e P1) (h2 : EvV c ρ e' P2) (hp : SP c ρ P1) (ho : Op2 c ρ (fun v u => call (.builtin id) [v, u]) P1 P2 P) (hg : x ∈ builtNames) (hb : bootBuiltins x = some (.builtin id))
    (hk : c.env.kindOf x = some .globalImplicit) (hne : x ≠ "__name__" := by decide) (hd : (x == ("__debug__" : Str)) = false := by decide)
    (he : starEach [e, e'] c.env = (false, eval e c.env) :: starEach [e'] c.env := by rfl) (he' : starEach [e'] c.env = [(false, eval e' c.env)] := by rfl) : EvV c ρ (.Call (.Name x np) [e, e'] [] pos) P := fun μ s t => by
  refine Call_ (wpAny_mono (EvV_blt hg hb hk hne hd μ s t) (fun v s1 q => ?_) fun _ _ x => x)
  obtain ⟨q1, rfl⟩ := q
  refine callWith_builtin1 (args_cons (wpAny_mono (h1 μ s1 (t.ext q1)) (fun v s2 q2 => args_cons (wpAny_mono (h2 μ s2 ((t.ext q1).ext q2.1)) (fun u s3 q3 => args_nil (wpAny_mono (ho μ s3 v u (((t.ext q1).ext q2.1).ext q3.1)
    (hp _ _ _ _ ((t.ext q1).ext q2.1) q3.1 q2.2) q3.2) (fun _ _ q4 => ⟨((q1.trans q2.1).trans q3.1).trans q4.1, q4.2⟩) fun _ _ x => x)) fun _ _ x => x) he') fun _ _ x => x) he) he (by
      show (backTo pos (starEach [e'] c.env)).any (·.1) = false
      rw [he']; rfl)
theorem EvV_t2 {x : Str} {np pos : Pos} {e e' : Expr} {id : String} {P1 P2 P : VP} (h1 : EvV c ρ e P1) (h2 : EvV c ρ e' P2) (hp : SP c ρ P1) (ho : Op2 c ρ (fun v u => call (.type id) [v, u]) P1 P2 P) (hg : x ∈ builtNames) (hb : bootBuiltins x = some (.type id))
    (hk : c.env.kindOf x = some .globalImplicit) (hne : x ≠ "__name__" := by decide) (hd : (x == ("__debug__" : Str)) = false := by decide)
    (he : starEach [e, e'] c.env = (false, eval e c.env) :: starEach [e'] c.env := by rfl) (he' : starEach [e'] c.env = [(false, eval e' c.env)] := by rfl) : EvV c ρ (.Call (.Name x np) [e, e'] [] pos) P := fun μ s t => by
  refine Call_ (wpAny_mono (EvV_blt hg hb hk hne hd μ s t) (fun v s1 q => ?_) fun _ _ x => x)
  obtain ⟨q1, rfl⟩ := q
  refine callWith_type1 (args_cons (wpAny_mono (h1 μ s1 (t.ext q1)) (fun v s2 q2 => args_cons (wpAny_mono (h2 μ s2 ((t.ext q1).ext q2.1)) (fun u s3 q3 => args_nil (wpAny_mono (ho μ s3 v u (((t.ext q1).ext q2.1).ext q3.1)
    (hp _ _ _ _ ((t.ext q1).ext q2.1) q3.1 q2.2) q3.2) (fun _ _ q4 => ⟨((q1.trans q2.1).trans q3.1).trans q4.1, q4.2⟩) fun _ _ x => x)) fun _ _ x => x) he') fun _ _ x => x) he) he (by
      show (backTo pos (starEach [e'] c.env)).any (·.1) = false
      rw [he']; rfl)

theorem Op1.lenL {ds : List D} (hz : ds.length < 9223372036854775808) : Op1 c ρ (fun v => call (.builtin "len") [v]) (isD c.w (.lst ds)) (isD c.w (.int ds.length)) := fun μ s v t r => by
  cases r using Rp.elimLst with
  | @lst a vs n ha e r =>
    have hl : vs.size = ds.length := by rw [← r.length]; simp
    refine len_list ⟨_, e, rfl, n, rfl⟩ (by rw [hl]; (first | lia | omega)) ⟨Ext.toks s _, ?_⟩
    rw [hl]; exact .int _ _
theorem Op1.lenT {ds : List D} (hz : ds.length < 9223372036854775808) : Op1 c ρ (fun v => call (.builtin "len") [v]) (isD c.w (.tup ds)) (isD c.w (.int ds.length)) := fun μ s v t r => by
  cases r using Rp.elimTup with
  | @tup a vs n ha e r =>
    have hl : vs.size = ds.length := by rw [← r.length]; simp
    refine len_tuple ⟨_, e, rfl, n, rfl⟩ (by rw [hl]; (first | lia | omega)) ⟨Ext.toks s _, ?_⟩
    rw [hl]; exact .int _ _
theorem Op1.lenS {x : Str} (hz : x.length < 9223372036854775808) : Op1 c ρ (fun v => call (.builtin "len") [v]) (isD c.w (.str x)) (isD c.w (.int x.length)) := fun μ s v t r => by
  cases r using Rp.elimStr; exact PyProof.Rows.len_str (by (first | lia | omega)) ⟨Ext.toks s _, .int _ _⟩

noncomputable def isRng (a b : Int) : VP := fun μ h v => ∃ r t u z, v = .ref r ∧ IsRange h r a b 1 t u z
theorem Op1.rng {b : Int} : Op1 c ρ (fun v => call (.type "range") [v]) (isD c.w (.int b)) (isRng 0 b) := fun μ s v t r => by
  cases r using Rp.elimInt; exact call_range_1 ⟨Ext.push s _ _, _, _, _, _, rfl, IsRange.new ..⟩
theorem Op2.rng {a b : Int} : Op2 c ρ (fun v u => call (.type "range") [v, u]) (isD c.w (.int a)) (isD c.w (.int b)) (isRng a b) := fun μ s v u t r r' => by
  cases r using Rp.elimInt; cases r' using Rp.elimInt; exact call_range_2 ⟨Ext.push s _ _, _, _, _, _, rfl, IsRange.new ..⟩
noncomputable def rngD (a b : Int) : List D := (List.range (b - a).toNat).map fun (i : Nat) => .int (a + i)
theorem Itb.rng {a b : Int} (ha : -(2 ^ 62) ≤ a) (ha' : a < 2 ^ 62) (hb : -(2 ^ 62) ≤ b) (hb' : b < 2 ^ 62) : Itb c ρ (isRng a b) (rngD a b) := fun μ s v t r => by
  obtain ⟨r, _, _, _, rfl, hr⟩ := r
  have hlen : (b - a).toNat = (rngD a b).length := by simp [rngD]
  have hsz : Builtin.Range.rangeSize a b 1 = ((b - a).toNat : Int) := by rw [rangeSize_one]; split <;> (first | lia | omega)
  refine wpAny_pyIter_range hr (small_one ha ha' hb hb') ⟨Ext.push s _ s.toks, _, _, _, _, rfl, Walks_len (Walks.range t.room.1 _ a 1 (b - a).toNat) hlen, ?_, Nat.le_refl _, (fun _ _ q => ⟨_, q⟩), fun b hb => .inl (List.mem_singleton.mp hb), ?_⟩
  · show IsRangeIter _ _ _ _ _
    rw [hsz]
    have e1 : a + ((0 : Nat) : Int) * 1 = a := by (first | lia | omega)
    have e2 : (((b - a).toNat : Nat) : Int) - ((0 : Nat) : Int) = ((b - a).toNat : Int) := by (first | lia | omega)
    rw [e1, e2]
    exact Heap.get?_push_size _ rfl
  · rintro i v d ⟨tk, rfl⟩ hd
    unfold rngD at hd
    obtain ⟨k, hq, rfl⟩ := map_get hd
    ·
      have : k = i := by
        have := List.getElem?_eq_some_iff.mp hq
        obtain ⟨h1, h2⟩ := this
        simpa using h2.symm
      subst this
      rw [Int.mul_one]; exact .int _ _

theorem rngD_get {a b : Int} {i : Nat} {d : D} (h : (rngD a b)[i]? = some d) : i < (b - a).toNat ∧ d = .int (a + i) := by
  have hi : i < (b - a).toNat := by
    have := (List.getElem?_eq_some_iff.mp h).1
    simpa [rngD] using this
  unfold rngD at h
  rw [List.getElem?_map, List.getElem?_range hi] at h
  exact ⟨hi, (Option.some.inj h).symm⟩
theorem rngD_get0 {b : Int} {i : Nat} {d : D} (h : (rngD 0 b)[i]? = some d) : i < b.toNat ∧ d = .int i := by
  obtain ⟨h1, h2⟩ := rngD_get h
  rw [Int.sub_zero] at h1
  rw [Int.zero_add] at h2
  exact ⟨h1, h2⟩
theorem rngD_len (a b : Int) : (rngD a b).length = (b - a).toNat := by simp [rngD]
theorem Ev_pow2 {l r : Expr} {pos : Pos} {i : Nat} (h1 : Ev c ρ l (.int 2)) (h2 : Ev c ρ r (.int i)) (hi : i < 1000) : Ev c ρ (.BinOp l .Pow r pos) (.int (2 ^ i)) := by
  have := Ev_pow (pos := pos) h1 h2 (by (first | lia | omega)) (by
    rw [show (Builtin.Int.intBits 2 : Int) = 2 by decide +kernel]; (first | lia | omega))
  rwa [Int.toNat_natCast] at this

theorem EvV_sub {value slice : Expr} {pos : Pos} {P1 P2 P : VP} (h1 : EvV c ρ value P1) (h2 : EvV c ρ slice P2) (hp : SP c ρ P1) (ho : Op2 c ρ (fun o i => subscriptTail value slice o i) P1 P2 P) : EvV c ρ (.Subscript value slice pos) P := fun μ s t =>
  Subscript_ (wpAny_mono (h1 μ s t) (fun v1 s1 q1 => wpAny_mono (h2 μ s1 (t.ext q1.1)) (fun v2 s2 q2 =>
    wpAny_mono (ho μ s2 v1 v2 ((t.ext q1.1).ext q2.1) (hp _ _ _ _ (t.ext q1.1) q2.1 q1.2) q2.2) (fun _ _ q3 => ⟨(q1.1.trans q2.1).trans q3.1, q3.2⟩) fun _ _ x => x) fun _ _ x => x) fun _ _ x => x)

noncomputable def noSlice : Expr → Bool
  | .Slice .. => false
  | _ => true
theorem sub_plain {slice : Expr} (h : noSlice slice = true) (o i : Value) : subscripted slice false o i = operate [o, i] (getItem o i) := by
  cases slice <;> first | rfl | cases h

theorem seqIdx_pos {k : Int} {n : Nat} (h0 : 0 ≤ k) (hk : k < n) : seqIndex? k n = some k.toNat := by
  unfold seqIndex?
  split
  · (first | lia | omega)
  · show (if (decide (0 ≤ k) && decide (k < ↑n)) = true then some k.toNat else none) = _
    simp [h0, hk]

theorem Op2.itemL {value slice : Expr} {ds : List D} {k : Int} {d : D} (hs : noSlice slice = true) (h0 : 0 ≤ k) (hk : k < 2 ^ 63) (hd : ds[k.toNat]? = some d) : Op2 c ρ (fun o i => subscriptTail value slice o i) (isD c.w (.lst ds)) (isD c.w (.int k)) (isD c.w d) := fun μ s v u t r r' => by
  cases r' using Rp.elimInt with
  | int tk => cases r using Rp.elimLst with
    | @lst a vs n ha e r =>
      obtain ⟨x, h1, h2⟩ := r.get hd
      have hl : s.heap.IsList a vs := ⟨_, e, rfl, n, rfl⟩
      exact tail_any hl.typeIs slot_list_getitem.lookup (wpAny_getItem_list hl h0 hk (by simpa using h1) ⟨.refl _, h2⟩) (sub_plain hs _ _)
theorem Op2.itemT {value slice : Expr} {ds : List D} {k : Int} {d : D} (hs : noSlice slice = true) (h0 : 0 ≤ k) (hk : k < 2 ^ 63) (hd : ds[k.toNat]? = some d) : Op2 c ρ (fun o i => subscriptTail value slice o i) (isD c.w (.tup ds)) (isD c.w (.int k)) (isD c.w d) := fun μ s v u t r r' => by
  cases r' using Rp.elimInt with
  | int tk => cases r using Rp.elimTup with
    | @tup a vs n ha e r =>
      obtain ⟨x, h1, h2⟩ := r.get hd
      have hl : IsTup s.heap a vs := ⟨_, e, rfl, n, rfl⟩
      have hlt : k.toNat < vs.size := by
        have := (List.getElem?_eq_some_iff.mp h1).1
        simpa using this
      refine tail_any hl.typeIs slot_tuple_getitem.lookup (getItem_tuple (j := k.toNat) hl (by (first | lia | omega)) hk ?_ (by simpa using h1) ⟨.refl _, h2⟩) (sub_plain hs _ _)
      exact seqIdx_pos h0 (by (first | lia | omega))
theorem Op2.itemS {value slice : Expr} {x : Str} {k : Int} {n : Nat} (hs : noSlice slice = true) (hlo : -(2 ^ 63) ≤ k) (hk : k < 2 ^ 63) (hd : (seqIndex? k x.length).bind (x.cps[·]?) = some n) : Op2 c ρ (fun o i => subscriptTail value slice o i) (isD c.w (.str x)) (isD c.w (.int k)) (isD c.w (.str ⟨#[n]⟩)) := fun μ s v u t r r' => by
  cases r' using Rp.elimInt with
  | int tk => cases r using Rp.elimStr with
    | str tk' =>
      refine tail_any (typeIs_str s x _) slot_str_getitem.lookup (PyProof.Rows.getItem_str ?_ hd ⟨Ext.toks s _, .str _ _⟩) (sub_plain hs _ _)
      rw [Bool.or_eq_false_iff]
      exact ⟨decide_eq_false (by (first | lia | omega)), decide_eq_false (by (first | lia | omega))⟩
theorem Op2.itemD {value slice : Expr} {l : List (Str × D)} {k : Str} {d : D} (hs : noSlice slice = true) (hd : lookD l k = some d) : Op2 c ρ (fun o i => subscriptTail value slice o i) (isD c.w (.dct l)) (isD c.w (.str k)) (isD c.w d) := fun μ s v u t r r' => by
  cases r' using Rp.elimStr with
  | str tk => cases r using Rp.elimDct with
    | @dct a kvs ha hS e r =>
      obtain ⟨x, h1, h2⟩ := r.look hd
      exact tail_any e.typeIs slot_dict_getitem.lookup (wpAny_getItem_of (knd := strKind PG c.w) (k := k) (by show Value.isStrOf k (.str k tk) = true; simp [Value.isStrOf]) e.mapOf h1 ⟨Ext.toks s _, Rp.ext t.mu72 (Ext.toks s _) h2⟩) (sub_plain hs _ _)

end
end Mine
end

noncomputable section -- MI
open PySem PyProof.Rows
set_option maxRecDepth 100000
namespace Mine

noncomputable def clOf (env : Env) : List (Str × NameKind) → List (Str × Addr) → List (Str × Addr)
  | [], cs => cs
  | (n, k) :: r, cs => clOf env r (if k == .free then (n, (env.cells.lookup n).getD 0) :: cs else cs)
noncomputable def freeOk (env : Env) (names : List (Str × NameKind)) : Bool := names.all fun p => p.2 != .free || (env.cells.lookup p.1).isSome

theorem closure_go (env : Env) (f : Str × NameKind → List (Str × Addr) → Sem (ForInStep (List (Str × Addr))))
    (hf : ∀ n k cs, f (n, k) cs = if k == .free then (do let a ← cellOf env n; pure (.yield ((n, a) :: cs))) else pure (.yield cs)) :
    ∀ (names : List (Str × NameKind)) (cs : List (Str × Addr)), freeOk env names = true → forIn names cs f = pure (clOf env names cs)
  | [], cs, _ => rfl
  | (n, k) :: r, cs, h => by
    unfold freeOk at h
    rw [List.all_cons, Bool.and_eq_true] at h
    rw [List.forIn_cons, hf, clOf]
    cases hk : k == NameKind.free with
    | false => simp only [Bool.false_eq_true, if_false]; exact closure_go env f hf r cs h.2
    | true =>
      simp only [if_true]
      have h1 := h.1
      have hk' : k = .free := by simpa using hk
      subst hk'
      have h2 : (env.cells.lookup n).isSome = true := by simpa using h1
      obtain ⟨a, ha⟩ := Option.isSome_iff_exists.mp h2
      unfold cellOf
      rw [ha]
      exact closure_go env f hf r _ h.2
theorem closureFor_is {scope : Scope} {env : Env} (h : freeOk env scope.names = true) : closureFor scope env = pure (clOf env scope.names []) := by
  simp only [closureFor]
  rw [closure_go env _ (fun n k cs => by cases hk : k == NameKind.free <;> simp) scope.names [] h]
  rfl

theorem clOf_mem {env : Env} : ∀ {names : List (Str × NameKind)} {cs : List (Str × Addr)} {p : Str × Addr}, freeOk env names = true → p ∈ clOf env names cs → p ∈ cs ∨ ((p.1, NameKind.free) ∈ names ∧ env.cells.lookup p.1 = some p.2)
  | [], cs, p, _, h => .inl h
  | (n, k) :: r, cs, p, hf, h => by
    unfold freeOk at hf
    rw [List.all_cons, Bool.and_eq_true] at hf
    rw [clOf] at h
    rcases clOf_mem hf.2 h with h | ⟨h1, h2⟩
    · cases hk : k == NameKind.free with
      | false => rw [hk] at h; exact .inl (by simpa using h)
      | true =>
        rw [hk] at h
        simp only [if_true] at h
        rcases List.mem_cons.mp h with rfl | h
        · have hk' : k = .free := by simpa using hk
          subst hk'
          have h2 : (env.cells.lookup n).isSome = true := by simpa using hf.1
          obtain ⟨a, ha⟩ := Option.isSome_iff_exists.mp h2
          exact .inr ⟨List.mem_cons_self, by rw [ha]; rfl⟩
        · exact .inl h
    · exact .inr ⟨List.mem_cons_of_mem _ h1, h2⟩
theorem clOf_nodup {env : Env} : ∀ {names : List (Str × NameKind)} {cs : List (Str × Addr)}, (names.map (·.1)).Nodup → (cs.map (·.1)).Nodup → (∀ x ∈ names.map (·.1), x ∉ cs.map (·.1)) → ((clOf env names cs).map (·.1)).Nodup
  | [], cs, _, h, _ => h
  | (n, k) :: r, cs, h1, h2, h3 => by
    rw [List.map_cons, List.nodup_cons] at h1
    rw [clOf]
    cases hk : k == NameKind.free with
    | false => exact clOf_nodup h1.2 h2 fun x hx => h3 x (List.mem_cons_of_mem _ hx)
    | true =>
      refine clOf_nodup h1.2 ?_ fun x hx hx' => ?_
      · simp only [if_true, List.map_cons, List.nodup_cons]
        exact ⟨h3 n List.mem_cons_self, h2⟩
      · simp only [if_true, List.map_cons] at hx'
        rcases List.mem_cons.mp hx' with e | hx'
        · exact h1.1 (e ▸ hx)
        · exact h3 x (List.mem_cons_of_mem _ hx) hx'

noncomputable def compCx (c : Cx) (scope : Scope) (C : Addr) (s : Shared) (μ : Addr → Prop) : Cx :=
  { rk := c.rk, w := c.w, A := c.A, env := compEnvC scope (clOf c.env scope.names []) C c.env, s₀ := s, μ₀ := μ, S := fun _ => False, pr := fun _ => False }
noncomputable def fzOnly : Option LV → Option LV
  | some (.fz d) => some (.fz d)
  | _ => none
noncomputable def compLoc (c : Cx) (ρ : Loc) (scope : Scope) (x : Str) (d : D) : Loc := fun y => if y = x then some (.fz d) else if ((clOf c.env scope.names []).lookup y).isSome then fzOnly (ρ y) else none
theorem compLoc_free {c : Cx} {ρ : Loc} {scope : Scope} {x y : Str} {d e : D} (h : ρ y = some (.fz e)) (hne : (y == x) = false) (hc : ((clOf c.env scope.names []).lookup y).isSome = true) : compLoc c ρ scope x d y = some (.fz e) := by
  unfold compLoc
  have : y ≠ x := by simpa using hne
  rw [if_neg this, if_pos hc, h]; rfl
theorem compLoc_x {c : Cx} {ρ : Loc} {scope : Scope} {x : Str} {d : D} : compLoc c ρ scope x d x = some (.fz d) := by unfold compLoc; rw [if_pos rfl]

theorem lookup_relabel_free {env : Env} : ∀ {names : List (Str × NameKind)} {x : Str}, names.lookup x = some .free →
    (names.map fun (n, k) => if (k == NameKind.free && env.scope.kind == .function && env.kindOf n == some .cell) then (n, NameKind.cell) else (n, k)).lookup x = some .cell ∨
    (names.map fun (n, k) => if (k == NameKind.free && env.scope.kind == .function && env.kindOf n == some .cell) then (n, NameKind.cell) else (n, k)).lookup x = some .free
  | [], _, h => by simp at h
  | (n, k) :: r, x, h => by
    have ih := @lookup_relabel_free env r x
    simp only [List.map_cons]
    cases hx : x == n with
    | true =>
      simp only [List.lookup_cons, hx] at h
      cases h
      split <;> simp [List.lookup_cons, hx]
    | false =>
      simp only [List.lookup_cons, hx] at h
      split <;> simp only [List.lookup_cons, hx] <;> exact ih h

section
variable {c : Cx} {ρ : Loc} {μ : Addr → Prop} {s s' : Shared}

theorem StM.inner {scope : Scope} {x : Str} {d : D} {C : Addr} {N : List Addr} {m : Str → Option Value} {v : Value} (t : StM c μ ρ s) (x1 : Ext s s') (hC : C ∈ N) (hN : ∀ a ∈ N, s.heap.objs.size ≤ a ∧ ∃ o, s'.heap.get? a = some o)
    (hn : s'.heap.Ns C m) (hv : m x = some v) (hr : Rp c.w (fun b => μ b ∨ b ∈ N) s'.heap v d)
    (hk : scope.kind = .function) (hf : freeOk c.env scope.names = true) (hnd : (scope.names.map (·.1)).Nodup) (hx : scope.names.lookup x = some .local) (hok : okName x = true) :
    StM (compCx c scope C s μ) (fun b => μ b ∨ b ∈ N) (compLoc c ρ scope x d) s' := by
  have t' := t.ext x1
  have hcl : ∀ p ∈ clOf c.env scope.names [], (p.1, NameKind.free) ∈ scope.names ∧ c.env.cells.lookup p.1 = some p.2 := fun p hp => (clOf_mem hf hp).elim (fun h => nomatch h) fun h => h
  have hcn : ((clOf c.env scope.names []).map (·.1)).Nodup := clOf_nodup hnd List.nodup_nil (fun _ _ h => by cases h)
  refine ⟨t.room, t'.g, fun b o e _ n => x1.keep b o e n, x1.os, x1.bare, fun a q => .inl q, (fun a q => t.lt a q), fun a q => q.elim .inl fun h => .inr (hN a h).1, fun a q => q.elim (t'.live a) fun h => (hN a h).2, .inl t.mu72,
    fun a q => q.elim (t.ge a) fun h => .inl (Nat.le_trans t.g.size (hN a h).1), fun h => h, fun _ h => h.elim, ?_⟩
  refine ⟨hk, t.frame.glob, t.frame.blt, .inr hC, (hN C hC).1, fun p hp => .inl (t.frame.cellsM _ (mem_of_lookup (hcl p hp).2)), fun y cl e => t'.frame.cells y cl (hcl (y, cl) (mem_of_lookup e)).2, (fun y cl e z => by
      have h1 : scope.names.lookup y = some .free := lookup_mem hnd (hcl (y, cl) (mem_of_lookup e)).1
      have z' : (relabel scope c.env).names.lookup y = some .local := z
      rcases lookup_relabel_free (env := c.env) h1 with h2 | h2 <;> (unfold relabel at z'; rw [h2] at z'; cases z')), ?_, fun p hp e => ?_, fun a ha => ?_, fun _ _ h => h, ?_, ?_, ?_⟩
  · -- distinct names have distinct cells
    have : ∀ l : List (Str × Addr), (l.map (·.1)).Nodup → (∀ p ∈ l, c.env.cells.lookup p.1 = some p.2) → l.Pairwise fun x y => x.2 ≠ y.2 := by
      intro l
      induction l with
      | nil => intro _ _; exact .nil
      | cons p l ih =>
        intro h1 h2
        rw [List.map_cons, List.nodup_cons] at h1
        refine List.pairwise_cons.mpr ⟨fun q hq e => h1.1 ?_, ih h1.2 fun q hq => h2 q (List.mem_cons_of_mem _ hq)⟩
        have e1 := h2 p List.mem_cons_self
        have e2 := h2 q (List.mem_cons_of_mem _ hq)
        rw [← e] at e2
        rw [lookup_inj t.frame.apart e1 e2]
        exact List.mem_map.mpr ⟨q, hq, rfl⟩
    exact this _ hcn fun p hp => (hcl p hp).2
  · have h1 : p.2 < s.heap.objs.size := t.lt _ (t.frame.cellsM _ (mem_of_lookup (hcl p hp).2))
    have e' : p.2 = C := e
    exact Nat.not_lt.mpr (e' ▸ (hN C hC).1) h1
  · rcases List.mem_cons.mp ha with rfl | ha
    · exact Nat.le_trans t.g.size (hN _ hC).1
    · obtain ⟨q, hq, rfl⟩ := List.mem_map.mp ha
      exact t.frame.big _ (List.mem_cons_of_mem _ (List.mem_map.mpr ⟨_, mem_of_lookup (hcl q hq).2, rfl⟩))
  · refine ⟨m, hn, fun y l e => ?_⟩
    unfold compLoc at e
    by_cases hy : y = x
    · rw [if_pos hy] at e; cases e; subst hy
      exact ⟨hok, v, .inl ⟨lookup_relabel_local hx, hv⟩, hr⟩
    · rw [if_neg hy] at e
      cases hl : (clOf c.env scope.names []).lookup y with
      | none => rw [hl] at e; cases e
      | some a =>
        rw [hl] at e
        simp only [Option.isSome_some, if_true] at e
        cases hρ : ρ y with
        | none => rw [hρ] at e; cases e
        | some lv =>
          rw [hρ] at e
          cases lv with
          | own as R => cases e
          | fz d' =>
            cases e
            obtain ⟨m0, hn0, hv0⟩ := t.frame.var
            obtain ⟨ok, u, va, r⟩ := hv0 y _ hρ
            have hm := hcl (y, a) (mem_of_lookup hl)
            have hfr : scope.names.lookup y = some .free := lookup_mem hnd hm.1
            refine ⟨ok, u, .inr ⟨lookup_relabel_free hfr, a, hl, ?_⟩, ?_⟩
            · rcases va with ⟨k, _⟩ | ⟨k, cl, e1, e2⟩
              · exact absurd k (t.frame.cellK y a hm.2)
              · rw [hm.2] at e1; cases e1
                exact IsCell.at e2 fun o z => x1.keep _ o z (fun e => by
                  have hb : 185 ≤ (a : Nat) := t.frame.big _ (List.mem_cons_of_mem _ (List.mem_map.mpr ⟨_, mem_of_lookup hm.2, rfl⟩))
                  exact absurd (Nat.le_trans hb (Nat.le_of_eq e)) (by decide))
            · have r1 : Rp c.w (fun b => μ b ∨ b ∈ N) s.heap u d' := Rp.grow (fun b o hb n z => z.elim n fun z => Nat.not_lt.mpr (hN b z).1 (Heap.lt_size hb)) r
              exact Rp.ext (c := c) (μ := fun b => μ b ∨ b ∈ N) (.inl t.mu72) x1 r1
  · intro y l e
    unfold compLoc at e
    split at e
    · cases e; exact ⟨trivial, List.nodup_nil, fun _ h => by cases h⟩
    · split at e
      · cases hρ : ρ y with
        | none => rw [hρ] at e; cases e
        | some lv => rw [hρ] at e; cases lv with
          | own as R => cases e
          | fz d' => cases e; exact ⟨trivial, List.nodup_nil, fun _ h => by cases h⟩
      · cases e
  · intro y z l k e e' _ a ha
    unfold compLoc at e
    split at e
    · cases e; cases ha
    · split at e
      · cases hρ : ρ y with
        | none => rw [hρ] at e; cases e
        | some lv => rw [hρ] at e; cases lv with
          | own as R => cases e
          | fz d' => cases e; cases ha
      · cases e

theorem Ext.poke {h' : Heap} {tk : Nat} {a : Addr} (x : Ext s s') (ha : s.heap.objs.size ≤ a) (hb : 185 ≤ s.heap.objs.size) (hk : ∀ b o, b ≠ a → s'.heap.get? b = some o → h'.get? b = some o) : Ext s { s' with heap := h', toks := tk } := by
  refine ⟨fun b o e n => hk b o (Nat.ne_of_lt (Nat.lt_of_lt_of_le (Heap.lt_size e) ha)) (x.keep b o e n), x.os, x.bare, fun q => ?_⟩
  obtain ⟨ps, p, q⟩ := x.tab q
  have n1 : (76 : Nat) ≠ a := Nat.ne_of_lt (Nat.lt_of_lt_of_le (Nat.lt_of_lt_of_le (by decide) hb) ha)
  have n2 : (72 : Nat) ≠ a := Nat.ne_of_lt (Nat.lt_of_lt_of_le (Nat.lt_of_lt_of_le (by decide) hb) ha)
  have hx : Heap.ExtBut a s'.heap h' := fun b o n e => hk b o n e
  exact ⟨ps, p.extBut hx n1 n2, q.extBut hx n1 n2⟩

noncomputable def TstL (c : Cx) (ρ : Loc) (ifs : List Expr) (b : Bool) : Prop :=
  ∀ μ s, StM c μ ρ s → wpAny (model PG c.w) c.A (forIn ifs true fun e r => if r = true then do let ok ← isTrue e c.env (eval e c.env); pure (ForInStep.yield ok) else pure (ForInStep.yield r)) (fun r s' => Ext s s' ∧ r = b) NoE s
theorem TstL_nil : TstL c ρ [] true := fun μ s t => by rw [List.forIn_nil]; exact wpAny_pure ⟨.refl _, rfl⟩
theorem TstL_one {e : Expr} {b : Bool} (h : Tst c ρ e b) : TstL c ρ [e] b := fun μ s t => by
  rw [List.forIn_cons]
  simp only [if_true]
  refine wpAny_bind (wpAny_bind (wpAny_mono (h μ s t) (fun r s' q => wpAny_pure ?_) fun _ _ x => x))
  simp only [List.forIn_nil]
  exact wpAny_pure q

theorem listcomp_core {RR : Value → Addr → Result → Shared → Prop} {elt iter : Expr} {x : Str} {px pos : Pos} {ifs : List Expr} {scope : Scope} {ds : List D} (p : D → Bool) (f : D → D) {s₁ s₂ : Shared} (t1 : StM c μ ρ s₁) {I : Addr} {fp : List Addr} {P : Nat → Value → Prop} {Sx : Nat → Heap → Prop}
    (hE : Ext s₁ s₂) (Wk : Walks PG c.w c.A I fp [I] ds.length P Sx) (hS : Sx 0 s₂.heap) (hI1 : s₁.heap.objs.size ≤ I) (hIl : ∀ i h, Sx i h → ∃ o, h.get? I = some o) (hfp : ∀ b ∈ fp, b = I ∨ (¬ μ b ∧ ∃ o, s₁.heap.get? b = some o))
    (hitem : ∀ i v d, P i v → ds[i]? = some d → Rp c.w μ s₁.heap v d)
    (hb : ∀ (C : Addr) (s : Shared) (μ : Addr → Prop) (i : Nat) (d : D), ds[i]? = some d → TstL (compCx c scope C s μ) (compLoc c ρ scope x d) ifs (p d) ∧ (p d = true → Ev (compCx c scope C s μ) (compLoc c ρ scope x d) elt (f d)))
    (hlen : ds.length ≤ sizeLine) (hk : scope.kind = .function) (hf : freeOk c.env scope.names = true) (hnd : (scope.names.map (·.1)).Nodup) (hx : scope.names.lookup x = some .local) (hok : okName x = true)
    (hcell : ∀ y ∈ scope.names, y.2 ≠ .cell)
    (hRR : ∀ D C s' m, Ext s₁ s' → s₁.heap.objs.size ≤ D → s₁.heap.objs.size ≤ C → D ≠ C → s'.heap.Ns C m → Rp c.w (fun b => μ b ∨ b = C) s'.heap (.ref D) (.lst ((ds.filter p).map f)) → RR (.ref D) C (.ok .next) s') :
    wpAny (model PG c.w) c.A (newList []) (fun acc s₃ => wpAny (model PG c.w) c.A (newFunctionEnv scope c.env.globals (clOf c.env scope.names []) [] c.env.qual none .none (some c.env)) (fun cenv s₄ =>
      codeAny (model PG c.w) c.A (.compStart (.ListComp elt [⟨.Name x px, iter, ifs, 0⟩] scope pos) 0 (.ref I) acc { cenv with scope := relabel scope c.env }) (RR acc cenv.locals) s₄) NoE s₃) NoE s₂ := by
  have t := t1
  refine wpAny_newObj_type (wpAny_newFunctionEnv hcell (by intro y hy; simp at hy) (fun h₃ hns₃ hsb₃ => ?_) hk)
  dsimp only at hns₃ hsb₃ ⊢
  generalize hH2 : s₂.heap.push { cls := .type "list", dict := none, data := .seq ([] : List Value).toArray } = H2 at hns₃ hsb₃ ⊢
  have hC : H2.objs.size = s₂.heap.objs.size + 1 := by rw [← hH2, Heap.size_push]
  generalize hDe : s₂.heap.objs.size = Dd at hC ⊢
  generalize hCe : H2.objs.size = C at hC hns₃ hsb₃ ⊢
  have hsz : 185 ≤ s₁.heap.objs.size := t1.g.size
  have hI2 : I < Dd := by obtain ⟨o, e⟩ := hIl 0 _ hS; rw [← hDe]; exact Heap.lt_size e
  have hDC : Dd ≠ C := by (first | lia | omega)
  have hID : I ≠ Dd := Nat.ne_of_lt hI2
  have hIC : I ≠ C := by rw [hC]; exact Nat.ne_of_lt (Nat.lt_succ_of_lt hI2)
  have hD1 : s₁.heap.objs.size ≤ Dd := Nat.le_trans hI1 (Nat.le_of_lt hI2)
  have hC1 : s₁.heap.objs.size ≤ C := by (first | lia | omega)
  have old : ∀ b o, s₂.heap.get? b = some o → h₃.get? b = some o := fun b o e => hsb₃.extBut b o (by rw [hC, ← hDe]; exact Nat.ne_of_lt (Nat.lt_succ_of_lt (Heap.lt_size e))) (Heap.get?_push_of_some _ (hH2 ▸ Heap.get?_push_of_some _ e))
  have hacc : h₃.PlainList Dd #[] := ⟨_, hsb₃.extBut _ _ hDC (Heap.get?_push_of_some _ (hH2 ▸ hDe ▸ Heap.get?_push_size _ rfl))⟩
  have hS3 : Sx 0 h₃ := Wk.frame _ _ _ hS fun b _ o e => old b o e
  have hE3 : ∀ tk, Ext s₁ { s₂ with heap := h₃, toks := tk } := fun tk => hE.trans (Ext.of_keep old)
  have hCf : C ∉ fp := fun z => by
    rcases hfp C z with e | ⟨_, o, ho⟩
    · exact hIC e.symm
    · exact absurd (Heap.lt_size ho) (Nat.not_lt.mpr hC1)
  have hDf : Dd ∉ fp := fun z => by
    rcases hfp Dd z with e | ⟨_, o, ho⟩
    · exact hID e.symm
    · exact absurd (Heap.lt_size ho) (Nat.not_lt.mpr hD1)
  have hNge : ∀ a ∈ [I, Dd, C], s₁.heap.objs.size ≤ a := fun a ha => by
    rcases List.mem_cons.mp ha with rfl | ha
    · exact hI1
    · rcases List.mem_cons.mp ha with rfl | ha
      · exact hD1
      · rw [List.mem_singleton.mp ha]; exact hC1
  let cenv : Env := compEnvC scope (clOf c.env scope.names []) C c.env
  have hx' : cenv.kindOf x = some .local := lookup_relabel_local hx
  have hp' : (cenv.scope.kind == .class || (cenv.scope.kind == .module && cenv.locals != cenv.globals)) = false := by
    show (scope.kind == .class || (scope.kind == .module && _)) = false
    rw [hk]; rfl
  have loop : ∀ tk, codeAny (model PG c.w) c.A (.compLoop (.ListComp elt [⟨.Name x px, iter, ifs, 0⟩] scope pos) 0 (.ref I) (.ref Dd) cenv)
      (RR (.ref Dd) C) { s₂ with heap := h₃, toks := tk } := by
    intro tk
    refine codeAny_compLoop_tests (fun n s' => ∃ i m ys, Ext s₁ s' ∧ Sx i s'.heap ∧ s'.heap.PlainList Dd ys ∧ s'.heap.Ns C m ∧ RpL c.w (fun b => μ b ∨ b ∈ [I, Dd, C]) s'.heap ys.toList (((ds.take i).filter p).map f) ∧ i ≤ ds.length ∧ n = ds.length + 1 - i) ?_ (ds.length + 1)
      ⟨0, _, #[], hE3 tk, hS3, hacc, hns₃, by simpa using RpL.nil, Nat.zero_le _, rfl⟩
    rintro n s' ⟨i, m, ys, x', hSx, hac, hn, hr, hi, rfl⟩
    by_cases hlt : i < ds.length
    · have hd : ds[i]? = some ds[i] := by simp [hlt]
      refine Wk.item i s' _ _ hlt hSx fun v h' tk' hP hS' hk' => ?_
      have hk1 : ∀ b o, b ≠ I → s'.heap.get? b = some o → h'.get? b = some o := fun b o n e => hk' b o (fun z => n (List.mem_singleton.mp z)) e
      have x1 : Ext s₁ { s' with heap := h', toks := tk' } := x'.poke hI1 hsz hk1
      have hac1 : h'.PlainList Dd ys := hac.at fun o e => hk1 _ o hID.symm e
      have hn1 : h'.Ns C m := hn.at' fun o e => hk1 _ o hIC.symm e
      have hrv : Rp c.w (fun b => μ b ∨ b ∈ [I, Dd, C]) h' v ds[i] := by
        have r0 := hitem i v _ hP hd
        have r1 : Rp c.w (fun b => μ b ∨ b ∈ [I, Dd, C]) s₁.heap v ds[i] := Rp.grow (fun b o hb n z => z.elim n fun z => Nat.not_lt.mpr (hNge b z) (Heap.lt_size hb)) r0
        exact Rp.ext (c := c) (s' := { s' with heap := h', toks := tk' }) (.inl t.mu72) x1 r1
      have hr1 : RpL c.w (fun b => μ b ∨ b ∈ [I, Dd, C]) h' ys.toList (((ds.take i).filter p).map f) := RpL.keep (fun _ n => n) (fun b o n e => hk1 b o (fun z => n (.inr (z ▸ List.mem_cons_self))) e) hr
      refine wpAny_assign_Name (wpAny_storeName_local hx' hn1 (fun h2 hn2 hs2 => ?_) hp')
      replace hs2 : Heap.SameBut C h' h2 := hs2
      replace hn2 : h2.Ns C (fun y => if y = x then some v else m y) := hn2
      have hk2 : ∀ b o, b ≠ C → h'.get? b = some o → h2.get? b = some o := fun b o n e => hs2.extBut b o n e
      have x2 : Ext s₁ { s' with heap := h2, toks := tk' + 1 } := x1.poke (s' := { s' with heap := h', toks := tk' }) hC1 hsz hk2
      have hac2 : h2.PlainList Dd ys := hac1.at fun o e => hk2 _ o hDC e
      have hS2 : Sx (i + 1) h2 := Wk.frame _ _ _ hS' fun b hb o e => hk2 b o (fun z => hCf (z ▸ hb)) e
      have hrv2 : Rp c.w (fun b => μ b ∨ b ∈ [I, Dd, C]) h2 v ds[i] := Rp.keep (fun _ n => n) (fun b o n e => hk2 b o (fun z => n (.inr (by rw [z]; simp))) e) hrv
      have hr2 : RpL c.w (fun b => μ b ∨ b ∈ [I, Dd, C]) h2 ys.toList (((ds.take i).filter p).map f) := RpL.keep (fun _ n => n) (fun b o n e => hk2 b o (fun z => n (.inr (by rw [z]; simp))) e) hr1
      have hNl : ∀ (h : Heap), Sx (i + 1) h → h.PlainList Dd ys → (∃ m, h.Ns C m) → ∀ a ∈ [I, Dd, C], s₁.heap.objs.size ≤ a ∧ ∃ o, h.get? a = some o := fun h q1 q2 q3 a ha => ⟨hNge a ha, by
        rcases List.mem_cons.mp ha with rfl | ha
        · exact hIl _ _ q1
        · rcases List.mem_cons.mp ha with rfl | ha
          · obtain ⟨n, e⟩ := q2; exact ⟨_, e⟩
          · rw [List.mem_singleton.mp ha]; obtain ⟨m, o, _, _, e, _⟩ := q3; exact ⟨o, e⟩⟩
      have tin : StM (compCx c scope C s₁ μ) (fun b => μ b ∨ b ∈ [I, Dd, C]) (compLoc c ρ scope x ds[i]) { s' with heap := h2, toks := tk' + 1 } :=
        t1.inner x2 (by simp) (hNl h2 hS2 hac2 ⟨_, hn2⟩) hn2 (by simp) hrv2 hk hf hnd hx hok
      obtain ⟨hT, hEl⟩ := hb C s₁ μ i _ hd
      refine wpAny_mono (hT _ _ tin) (fun ok s3 q3 => ?_) fun _ _ z => z.elim
      obtain ⟨x3, rfl⟩ := q3
      have x13 := x2.trans x3
      have keep3 : ∀ b o, b ≠ 72 → h2.get? b = some o → s3.heap.get? b = some o := fun b o n e => x3.keep b o e n
      have n72 : ∀ a, s₁.heap.objs.size ≤ a → a ≠ 72 := fun a ha => by (first | lia | omega)
      have hac3 : s3.heap.PlainList Dd ys := hac2.at fun o e => keep3 _ o (n72 _ hD1) e
      have hn3 : s3.heap.Ns C (fun y => if y = x then some v else m y) := hn2.at' fun o e => keep3 _ o (n72 _ hC1) e
      have hS3' : Sx (i + 1) s3.heap := Wk.frame _ _ _ hS2 fun b hb o e => keep3 b o (fun z => by
        rcases hfp b hb with e' | ⟨nb, _⟩
        · exact n72 _ hI1 (e' ▸ z)
        · exact nb (z ▸ t.mu72)) e
      have hr3 : RpL c.w (fun b => μ b ∨ b ∈ [I, Dd, C]) s3.heap ys.toList (((ds.take i).filter p).map f) := RpL.keep (fun _ n => n) (fun b o n e => keep3 b o (fun z => n (.inl (z ▸ t.mu72))) e) hr2
      have htake : ds.take (i + 1) = ds.take i ++ [ds[i]] := by rw [List.take_add_one, hd]; rfl
      cases hpd : p ds[i] with
      | false =>
        simp only [Bool.false_eq_true, if_false]
        refine ⟨ds.length + 1 - (i + 1), by (first | lia | omega), i + 1, _, ys, x13, hS3', hac3, hn3, ?_, hlt, rfl⟩
        rw [htake, List.filter_append]; simpa [hpd] using hr3
      | true =>
        simp only [if_true]
        have tin3 := tin.ext x3
        refine wpAny_mono (hEl hpd _ _ tin3) (fun y s4 q4 => ?_) fun _ _ z => z.elim
        obtain ⟨x4, ry⟩ := q4
        have keep4 : ∀ b o, b ≠ 72 → s3.heap.get? b = some o → s4.heap.get? b = some o := fun b o n e => x4.keep b o e n
        have hac4 : s4.heap.PlainList Dd ys := hac3.at fun o e => keep4 _ o (n72 _ hD1) e
        have hys : ys.size ≤ sizeLine := by
          have e1 : ys.toList.length = _ := hr3.length
          rw [List.length_map] at e1
          have e2 : ((ds.take i).filter p).length ≤ (ds.take i).length := List.length_filter_le _ _
          have e3 : (ds.take i).length ≤ ds.length := by rw [List.length_take]; (first | lia | omega)
          have e4 : ys.toList.length = ys.size := by simp
          (first | lia | omega)
        refine wpAny_list_append_plain (hsz := hys) hac4 fun h5 hac5 hs5 => ?_
        have hk5 : ∀ b o, b ≠ Dd → s4.heap.get? b = some o → h5.get? b = some o := fun b o n e => hs5.extBut b o n e
        have x5 : Ext s₁ { s4 with heap := h5, toks := s4.toks } := (x13.trans x4).poke hD1 hsz hk5
        refine ⟨ds.length + 1 - (i + 1), by (first | lia | omega), i + 1, (fun y => if y = x then some v else m y), ys.push y, x5, ?_, hac5, ?_, ?_, hlt, rfl⟩
        · refine Wk.frame _ _ _ hS3' fun b hb o e => hk5 b o (fun z => hDf (z ▸ hb)) (keep4 b o (fun z => ?_) e)
          rcases hfp b hb with e' | ⟨nb, _⟩
          · exact n72 _ hI1 (e' ▸ z)
          · exact nb (z ▸ t.mu72)
        · exact hn3.at' fun o e => hk5 _ o hDC.symm (keep4 _ o (n72 _ hC1) e)
        · rw [htake, List.filter_append, List.map_append]
          have e1 : (List.filter p [ds[i]]).map f = [f ds[i]] := by simp [hpd]
          rw [e1, Array.toList_push]
          have hr4 : RpL c.w (fun b => μ b ∨ b ∈ [I, Dd, C]) s4.heap ys.toList (((ds.take i).filter p).map f) := RpL.keep (fun _ n => n) (fun b o n e => keep4 b o (fun z => n (.inl (z ▸ t.mu72))) e) hr3
          refine RpL.append ?_ (.cons ?_ .nil)
          · exact RpL.keep (fun _ n => n) (fun b o n e => hk5 b o (fun z => n (.inr (by rw [z]; simp))) e) hr4
          · exact Rp.keep (fun _ n => n) (fun b o n e => hk5 b o (fun z => n (.inr (by rw [z]; simp))) e) ry
    · have hin : i = ds.length := by (first | lia | omega)
      subst hin
      refine Wk.done s' _ _ hSx fun h' tk' hk' => ?_
      have hk1 : ∀ b o, b ≠ I → s'.heap.get? b = some o → h'.get? b = some o := fun b o n e => hk' b o (fun z => n (List.mem_singleton.mp z)) e
      have x1 : Ext s₁ { s' with heap := h', toks := tk' } := x'.poke hI1 hsz hk1
      obtain ⟨nn, eD⟩ := hac
      rw [List.take_length] at hr
      refine hRR Dd C _ m x1 hD1 hC1 hDC (hn.at' fun o e => hk1 _ o hIC.symm e) ?_
      refine .lst (fun z => z.elim (fun z => Nat.not_lt.mpr hD1 (t1.lt _ z)) hDC) (hk1 _ _ hID.symm eD) ?_
      exact RpL.keep (fun b n z => n (z.imp (fun z => z) fun z => by rw [z]; simp)) (fun b o n e => hk1 b o (fun z => n (.inr (z ▸ List.mem_cons_self))) e) hr
  exact codeAny_compStart_list (loop _) (Wk.self 0 _ _ _ hS3 (loop _))

theorem Ev_listcomp {elt iter : Expr} {x : Str} {px pos : Pos} {ifs : List Expr} {scope : Scope} {P1 : VP} {ds : List D} (p : D → Bool) (f : D → D) (h1 : EvV c ρ iter P1) (h2 : Itb c ρ P1 ds)
    (hb : ∀ (C : Addr) (s : Shared) (μ : Addr → Prop) (i : Nat) (d : D), ds[i]? = some d → TstL (compCx c scope C s μ) (compLoc c ρ scope x d) ifs (p d) ∧ (p d = true → Ev (compCx c scope C s μ) (compLoc c ρ scope x d) elt (f d)))
    (hlen : ds.length ≤ sizeLine) (hk : scope.kind = .function) (hf : freeOk c.env scope.names = true) (hnd : (scope.names.map (·.1)).Nodup) (hx : scope.names.lookup x = some .local) (hok : okName x = true)
    (hcell : ∀ y ∈ scope.names, y.2 ≠ .cell) (hs : ∀ v, foldedSetIterable iter c.env v = pure v := by intro _; rfl) :
    Ev c ρ (.ListComp elt [⟨.Name x px, iter, ifs, 0⟩] scope pos) (.lst ((ds.filter p).map f)) := fun μ s t => by
  rw [eval_ListComp]
  refine wpAny_comprehension_free (use := none) rfl hs (closureFor_is hf) hk (fun y hy hl => lookup_mem hnd (p := (y.1, .local)) (by rw [← hl]; exact hy)) ?_
  refine wpAny_mono (h1 μ s t) (fun v s₁ q1 => ?_) fun _ _ x => x
  have t1 := t.ext q1.1
  refine wpAny_mono (h2 μ s₁ v t1 q1.2) (fun it s₂ q2 => ?_) fun _ _ x => x
  obtain ⟨hE, I, fp, P, Sx, rfl, Wk, hS, hI1, hIl, hfp, hitem⟩ := q2
  refine listcomp_core (RR := fun acc C => compPost (model PG c.w) c.A NoE none _ acc C) p f t1 hE Wk hS hI1 hIl hfp hitem hb hlen hk hf hnd hx hok hcell ?_
  intro D C s' m x1 hD1 hC1 hDC hn hr
  refine ⟨m, hn, fun h2 hs2 => ?_⟩
  have x2 : Ext s₁ { s' with heap := h2, toks := s'.toks } := x1.poke hC1 t1.g.size fun b o n e => hs2.extBut b o n e
  exact ⟨q1.1.trans x2, Rp.keep (fun b n z => n (.inl z)) (fun b o n e => hs2.extBut b o (fun z => n (.inr z)) e) hr⟩

theorem W_assign_listcomp {Q : Out → Prop} {rest : List Stmt} {elt iter : Expr} {x y : Str} {px py pos spos : Pos} {ifs : List Expr} {scope : Scope} {P1 : VP} {ds : List D} (p : D → Bool) (f : D → D) (h1 : EvV c ρ iter P1) (h2 : Itb c ρ P1 ds)
    (hb : ∀ (C : Addr) (s : Shared) (μ : Addr → Prop) (i : Nat) (d : D), ds[i]? = some d → TstL (compCx c scope C s μ) (compLoc c ρ scope x d) ifs (p d) ∧ (p d = true → Ev (compCx c scope C s μ) (compLoc c ρ scope x d) elt (f d)))
    (hlen : ds.length ≤ sizeLine) (hk : scope.kind = .function) (hf : freeOk c.env scope.names = true) (hnd : (scope.names.map (·.1)).Nodup) (hx : scope.names.lookup x = some .local) (hok : okName x = true)
    (hcell : ∀ y ∈ scope.names, y.2 ≠ .cell) (hy : Storable c y)
    (hsw : swapsWithSole [.Name y py] (.ListComp elt [⟨.Name x px, iter, ifs, 0⟩] scope pos) spos.line c.env = pure true)
    (hq : W c (upd ρ y (.fz (.lst ((ds.filter p).map f)))) rest Q) (hs : ∀ v, foldedSetIterable iter c.env v = pure v := by intro _; rfl) :
    W c ρ (.Assign [.Name y py] (.ListComp elt [⟨.Name x px, iter, ifs, 0⟩] scope pos) spos :: rest) Q := W_cons fun μ s t => by
  rw [exec_Assign_arm]
  refine wpAny_bind (wpAny_standAt ?_)
  rw [hsw]
  refine wpAny_bind (wpAny_pure ?_)
  rw [if_pos rfl]
  refine wpAny_bind ?_
  show wpAny _ _ (do let _ ← comprehension (.ListComp elt [⟨.Name x px, iter, ifs, 0⟩] scope pos) scope c.env (firstIterPos [⟨.Name x px, iter, ifs, 0⟩] pos) (newList []) false (eval iter c.env) (some fun v => assignAll v [assign (.Name y py) c.env])) _ _ s
  refine wpAny_bind (wpAny_comprehension_free rfl hs (closureFor_is hf) hk (fun y hy hl => lookup_mem hnd (p := (y.1, .local)) (by rw [← hl]; exact hy)) ?_)
  refine wpAny_mono (h1 μ s t) (fun v s₁ q1 => ?_) fun _ _ x => x
  have t1 := t.ext q1.1
  refine wpAny_mono (h2 μ s₁ v t1 q1.2) (fun it s₂ q2 => ?_) fun _ _ x => x
  obtain ⟨hE, I, fp, P, Sx, rfl, Wk, hS, hI1, hIl, hfp, hitem⟩ := q2
  refine listcomp_core (RR := fun acc C => compPost (model PG c.w) c.A NoE _ _ acc C) p f t1 hE Wk hS hI1 hIl hfp hitem hb hlen hk hf hnd hx hok hcell ?_
  intro D C s' m x1 hD1 hC1 hDC hn hr
  have hCl : ∃ o, s'.heap.get? C = some o := let ⟨o, _, _, e, _⟩ := hn; ⟨o, e⟩
  have t2 := t1.grow x1 hC1 hCl
  have mv2 := Mv.grow (c := c) t1 x1 hC1
  show wpAny _ _ (assignAll (.ref D) [assign (.Name y py) c.env]) _ _ s'
  show wpAny _ _ (assign (.Name y py) c.env (.ref D)) _ _ s'
  have hCfp : C ∉ c.fp := fun z => by
    have : μ C := by
      rcases List.mem_cons.mp z with e | z
      · exact e ▸ t.frame.muL
      · obtain ⟨q, hq, e⟩ := List.mem_map.mp z; exact e ▸ t.frame.cellsM q hq
    exact Nat.not_lt.mpr hC1 (t1.lt C this)
  have hprC : ¬ c.pr C := fun z => Nat.not_lt.mpr hC1 (t1.lt C (t1.prM C z))
  have h0C : ¬ c.μ₀ C := fun z => Nat.not_lt.mpr hC1 (t1.lt C (t1.mu0 C z))
  refine wpAny_assign_Name (wp_store' t2 hy .fz hr fun s3 t3 mv3 hk3 => ?_)
  have hn3 : s3.heap.Ns C m := hn.at' fun o e => hk3 C o hCfp e
  refine ⟨m, hn3, fun h' hs' => wpAny_pure (wpAny_pure ?_)⟩
  have t4 : StM c (fun b => (μ b ∨ b = C) ∧ b ≠ C) (upd ρ y (.fz (.lst ((ds.filter p).map f)))) { s3 with heap := h', toks := s3.toks } := t3.pokeDrop (.inr rfl) (fun b o n e => hs'.extBut b o n e) (Nat.le_trans t1.size hC1) (Nat.le_trans t1.g.size hC1) hCfp (fun z l e ha => by
    unfold upd at e
    split at e
    · cases e; cases ha
    · exact Nat.not_lt.mpr hC1 (t1.lt C ((t.frame.own z l e).2.2 C ha).1)) h0C hprC
  refine ⟨Out.next (upd ρ y (.fz (.lst ((ds.filter p).map f)))), _, hq, ⟨rfl, t4⟩, (t.mv q1.1).trans (mv2.trans (mv3.trans ⟨fun b o n e => hs'.extBut b o (fun z => n.elim (fun n => n (.inr z)) fun n => hprC (z ▸ n)) e, fun _ _ _ n z => n z.1⟩))⟩
end
end Mine
end

noncomputable section -- MJ
open PySem PyProof.Rows
set_option maxRecDepth 100000
namespace Mine

section
variable {c : Cx} {ρ : Loc} {μ : Addr → Prop} {s s' : Shared}

theorem glued_nil (l : List Str) : Builtin.Str.glued ⟨#[]⟩ l = S (l.flatMap fun x => x.cps.toList) := by
  have key : ∀ (l : List Str) (a : Array Nat), l.foldl (fun acc p => acc ++ (#[] : Array Nat) ++ p.cps) a = (a.toList ++ l.flatMap fun x => x.cps.toList).toArray := by
    intro l
    induction l with
    | nil => intro a; simp
    | cons x l ih => intro a; rw [List.foldl_cons, ih]; simp
  unfold Builtin.Str.glued S
  cases l with
  | nil => rfl
  | cons x l =>
    show Str.mk (l.foldl _ x.cps) = _
    rw [key]; simp

theorem RpL.strs {vs : List Value} {xs : List Str} (r : RpL c.w μ s.heap vs (xs.map .str)) : ∃ l : List (Str × Tok), vs = strValues l ∧ l.map (·.1) = xs := by
  induction xs generalizing vs with
  | nil => cases r; exact ⟨[], rfl, rfl⟩
  | cons x xs ih =>
    cases r using RpL.elimCons with
    | cons a b =>
      obtain ⟨l, rfl, h⟩ := ih b
      cases a using Rp.elimStr with
      | str t => exact ⟨(x, t) :: l, rfl, by simp [h]⟩

theorem EvV_strMeth1 {o e : Expr} {name : Str} {apos pos : Pos} {x : Str} {id : String} {P2 P : VP} {pl : Sem Bool} (h1 : Ev c ρ o (.str x)) (h2 : EvV c ρ e P2)
    (gm : ∀ (t : Tok) (s : Shared) (Q : Value × List Value → Shared → Prop), Q (.builtin id, [.str x t]) s → wpAny (model PG c.w) c.A (getMethod (.str x t) name pl) Q NoE s)
    (ho : ∀ t, Op1 c ρ (fun u => call (.builtin id) [.str x t, u]) P2 P)
    (he : eval (.Call (.Attribute o name apos) [e] [] pos) c.env = (do
      let ov ← eval o c.env
      standAt apos.atName
      let (f, first) ← holding [ov] (getMethod ov name pl)
      callWith pos f first (backTo pos (starEach [e] c.env)) []) := by rfl) (hs : starEach [e] c.env = [(false, eval e c.env)] := by rfl) :
    EvV c ρ (.Call (.Attribute o name apos) [e] [] pos) P := fun μ s t => by
  refine MethodCall_ (pl := pl) (wpAny_mono (h1 μ s t) (fun v s1 q1 => ?_) fun _ _ x => x) he
  obtain ⟨q1, q⟩ := q1
  cases q using Rp.elimStr with
  | str tk =>
    refine gm tk s1 _ ?_
    refine callWith_method1 (args_cons (wpAny_mono (h2 μ s1 (t.ext q1)) (fun u s2 q2 => args_nil ?_) fun _ _ x => x) hs) hs
    exact wpAny_mono (ho tk μ s2 u ((t.ext q1).ext q2.1) q2.2) (fun _ _ q3 => ⟨(q1.trans q2.1).trans q3.1, q3.2⟩) fun _ _ x => x

theorem Ev_join {o e : Expr} {apos pos : Pos} {xs : List Str} {pl : Sem Bool} (h1 : Ev c ρ o (.str ⟨#[]⟩)) (h2 : Ev c ρ e (.lst (xs.map .str))) (hz : JoinOk ⟨#[]⟩ xs = true)
    (he : eval (.Call (.Attribute o "join" apos) [e] [] pos) c.env = (do
      let ov ← eval o c.env
      standAt apos.atName
      let (f, first) ← holding [ov] (getMethod ov "join" pl)
      callWith pos f first (backTo pos (starEach [e] c.env)) []) := by rfl) (hs : starEach [e] c.env = [(false, eval e c.env)] := by rfl) :
    Ev c ρ (.Call (.Attribute o "join" apos) [e] [] pos) (.str (S (xs.flatMap fun x => x.cps.toList))) :=
  EvV_strMeth1 (id := "str.join") h1 h2 (fun t s Q q => GM.join q) (fun tk μ s v t r => by
    cases r using Rp.elimLst with
    | @lst a vs n ha e r =>
      obtain ⟨l, hl, hx⟩ := RpL.strs (c := c) r
      refine SC.join (l := l) (texts := xs) ⟨_, e, rfl, n, ?_⟩ hx hz fun t' k => ⟨Ext.toks s k, ?_⟩
      · show Data.seq vs n = Data.seq (strValues l).toArray n
        rw [← hl]
      · show Rp c.w μ s.heap (.str (Builtin.Str.glued ⟨#[]⟩ xs) t') _
        rw [glued_nil]; exact .str _ _) he hs
end
end Mine
end

noncomputable section -- MK
open PySem PyProof.Rows
set_option maxRecDepth 100000
namespace Mine

noncomputable def odR (w : World) (a : Addr) (l : List (Str × D)) : VP := fun μ h v => v = .ref a ∧ ∃ kvs, h.DictOf (strKind PG w) a kvs ∧ RpK w μ h kvs l
noncomputable def OD (w : World) (a : Addr) (l : List (Str × D)) : LV := .own [a] (odR w a l)
noncomputable def olR (w : World) (a : Addr) (l : List D) : VP := fun μ h v => v = .ref a ∧ ∃ vs n, h.get? a = some (lstO vs n) ∧ RpL w μ h vs.toList l
noncomputable def OL (w : World) (a : Addr) (l : List D) : LV := .own [a] (olR w a l)

theorem odR_stable {w : World} {a : Addr} {l : List (Str × D)} : Stable [a] (odR w a l) := by
  rintro μ μ' h h' v hμ hk ⟨e, kvs, ⟨o, es, ep, ho, q⟩, r⟩
  exact ⟨e, kvs, ⟨o, es, ep, hk _ _ (.inr (by simp)) ho, q⟩, r.move hμ fun b o n e => hk b o (.inl n) e⟩
theorem olR_stable {w : World} {a : Addr} {l : List D} : Stable [a] (olR w a l) := by
  rintro μ μ' h h' v hμ hk ⟨e, vs, n, ho, r⟩
  exact ⟨e, vs, n, hk _ _ (.inr (by simp)) ho, r.move hμ fun b o n e => hk b o (.inl n) e⟩

section
variable {c : Cx} {ρ : Loc} {μ : Addr → Prop} {s s' : Shared} {Q : Out → Prop}

theorem StM.fpM (t : StM c μ ρ s) : ∀ a ∈ c.fp, μ a := fun a z => by
  rcases List.mem_cons.mp z with e | z
  · exact e ▸ t.frame.muL
  · obtain ⟨q, hq, e⟩ := List.mem_map.mp z; exact e ▸ t.frame.cellsM q hq

theorem Held_new (t : StM c μ ρ s) {a : Addr} {x : Str} {R : VP} (ha : s.heap.objs.size ≤ a) (hst : Stable [a] R) : Held c (fun b => μ b ∨ b = a) ρ x (.own [a] R) := by
  have nm : ¬ μ a := fun z => Nat.not_lt.mpr ha (t.lt a z)
  refine ⟨hst, by simp [LV.adr], fun b hb => ?_, fun y k e _ b hb hb' => ?_⟩
  · have hb : b = a := by simpa [LV.adr] using hb
    subst hb
    exact ⟨.inr rfl, fun z => nm (t.fpM b z), fun z => nm (t.prM b z), .inl (Nat.le_trans t.size ha), Nat.le_trans t.g.size ha⟩
  · have hb : b = a := by simpa [LV.adr] using hb
    subst hb
    exact nm ((t.frame.own y k e).2.2 b hb').1

theorem W_newdict {x : Str} {p pos dpos : Pos} {rest : List Stmt} (hx : Storable c x) (hq : ∀ a, W c (upd ρ x (OD c.w a [])) rest Q) (hs : swapsWith (.Dict [] [] dpos) (some (.Name x p)) pos.line c.env = pure false := by rfl) :
    W c ρ (.Assign [.Name x p] (.Dict [] [] dpos) pos :: rest) Q := W_cons fun μ s t => by
  refine wpAny_Assign_Name (wpAny_Dict_empty ?_) hs
  have x1 := Ext.push s { cls := .type "dict", data := .dict #[] } s.toks
  have t1 := t.grow x1 (Nat.le_refl _) ⟨_, Heap.get?_push_size _ rfl⟩
  have mv1 := Mv.grow (c := c) t x1 (Nat.le_refl _)
  refine wp_store t1 hx (Held_new t (Nat.le_refl _) odR_stable) ?_ fun s' t' mv => ⟨Out.next _, _, hq _, ⟨rfl, t'⟩, mv1.trans mv⟩
  exact ⟨rfl, [], ⟨_, #[], 0, Heap.get?_push_size _ rfl, ⟨rfl, rfl, rfl⟩, rfl, fun _ he => by simp at he, .nil, List.nodup_nil⟩, .nil⟩
theorem W_newlist {x : Str} {p pos dpos : Pos} {rest : List Stmt} (hx : Storable c x) (hq : ∀ a, W c (upd ρ x (OL c.w a [])) rest Q) (hs : swapsWith (.List [] dpos) (some (.Name x p)) pos.line c.env = pure false := by rfl) :
    W c ρ (.Assign [.Name x p] (.List [] dpos) pos :: rest) Q := W_cons fun μ s t => by
  refine wpAny_Assign_Name (wpAny_List (wpAny_items_nil ⟨by simp, ?_⟩)) hs
  have x1 := Ext.push s { cls := .type "list", data := .seq ([] : List Value).toArray } s.toks
  have t1 := t.grow x1 (Nat.le_refl _) ⟨_, Heap.get?_push_size _ rfl⟩
  have mv1 := Mv.grow (c := c) t x1 (Nat.le_refl _)
  refine wp_store t1 hx (Held_new t (Nat.le_refl _) olR_stable) ?_ fun s' t' mv => ⟨Out.next _, _, hq _, ⟨rfl, t'⟩, mv1.trans mv⟩
  exact ⟨rfl, #[], 0, Heap.get?_push_size _ rfl, .nil⟩

theorem StM.setOwn {h' : Heap} {tk : Nat} {x : Str} {as : List Addr} {a : Addr} {R R' : VP} (t : StM c μ ρ s) (hx : ρ x = some (.own as R)) (ha : a ∈ as) (hk : ∀ b o, b ≠ a → s.heap.get? b = some o → h'.get? b = some o)
    (hlive : ∃ o, h'.get? a = some o) (hst : Stable as R') (hR : ∀ v, R μ s.heap v → R' μ h' v) : StM c μ (upd ρ x (.own as R')) { s with heap := h', toks := tk } ∧ Mv c μ μ s { s with heap := h', toks := tk } := by
  obtain ⟨hok, hndp, hown⟩ := t.frame.own x _ hx
  obtain ⟨hμ, hfp, hpr, hbase, hbig⟩ := hown a ha
  have n1 : (76 : Nat) ≠ a := Nat.ne_of_lt (Nat.lt_of_lt_of_le (by decide) hbig)
  have n2 : (72 : Nat) ≠ a := Nat.ne_of_lt (Nat.lt_of_lt_of_le (by decide) hbig)
  have hxx : Heap.ExtBut a s.heap h' := fun b o n e => hk b o n e
  refine ⟨⟨t.room, t.g.mod (fun b o hb' n _ e => hk b o (Nat.ne_of_lt (Nat.lt_of_lt_of_le hb' hbig)) e) ?_, fun b o e n n' => hk b o ?_ (t.keep b o e n n'), t.os, t.bare, t.mu0, t.mu0lt, t.mu1, ?_, t.mu72, t.ge, t.pr72, t.prM, ?_⟩,
    ⟨fun b o n e => hk b o (fun z => n.elim (fun n => n (z ▸ hμ)) fun n => hpr (z ▸ n)) e, fun _ _ _ n => n⟩⟩
  · obtain ⟨ps, p, q⟩ := t.g.tab
    exact ⟨ps, p.extBut hxx n1 n2, q.extBut hxx n1 n2⟩
  · rintro rfl
    exact hbase.elim (fun z => Nat.not_lt.mpr z (Heap.lt_size e)) n
  · intro b q
    by_cases h : b = a
    · exact h ▸ hlive
    · obtain ⟨o, e⟩ := t.live b q
      exact ⟨o, hk b o h e⟩
  · have f := t.frame
    have hne : ∀ y k, ρ y = some k → y ≠ x → a ∉ k.adr := fun y k e n z => f.sep x y _ k hx e n.symm a ha z
    refine ⟨f.kind, f.glob, f.blt, f.muL, f.baseL, f.cellsM, fun y cl e => let ⟨u, q⟩ := f.cells y cl e; ⟨u, IsCell.at q fun o z => hk cl o (fun w => hfp (w ▸ List.mem_cons_of_mem _ (List.mem_map.mpr ⟨_, mem_of_lookup e, rfl⟩))) z⟩,
      f.cellK, f.apart, f.cellsL, f.big, f.prL, ?_, ?_, ?_⟩
    · obtain ⟨m, hn, hv⟩ := f.var
      refine ⟨m, hn.at' fun o e => hk _ o (fun w => hfp (w ▸ List.mem_cons_self)) e, fun y l e => ?_⟩
      have move : ∀ u, VarAt c.env m s.heap y u → VarAt c.env m h' y u := fun u va => by
        rcases va with q | ⟨k, cl, e1, e2⟩
        · exact .inl q
        · exact .inr ⟨k, cl, e1, IsCell.at e2 fun o z => hk cl o (fun w => hfp (w ▸ List.mem_cons_of_mem _ (List.mem_map.mpr ⟨_, mem_of_lookup e1, rfl⟩))) z⟩
      unfold upd at e
      by_cases hy : y = x
      · rw [if_pos hy] at e; cases e; subst hy
        obtain ⟨ok, u, va, r⟩ := hv y _ hx
        exact ⟨ok, u, move u va, hR u r⟩
      · rw [if_neg hy] at e
        obtain ⟨ok, u, va, r⟩ := hv y l e
        exact ⟨ok, u, move u va, r.keep (f.own y l e).1 (fun _ _ _ n => n) fun b o z q => hk b o (fun w => z.elim (fun z => z (w ▸ hμ)) fun z => hne y l e hy (w ▸ z)) q⟩
    · intro y l e
      unfold upd at e
      by_cases hy : y = x
      · rw [if_pos hy] at e; cases e; exact ⟨hst, hndp, hown⟩
      · rw [if_neg hy] at e; exact f.own y l e
    · intro y z k j ey ez hne' b hb
      unfold upd at ey ez
      by_cases hy : y = x
      · rw [if_pos hy] at ey; cases ey
        rw [if_neg (fun e => hne' (hy.trans e.symm))] at ez
        exact f.sep x z _ j hx ez (fun e => hne' (hy.trans e)) b hb
      · rw [if_neg hy] at ey
        by_cases hz : z = x
        · rw [if_pos hz] at ez; cases ez
          exact f.sep y x k _ ey hx hy b hb
        · rw [if_neg hz] at ez
          exact f.sep y z k j ey ez hne' b hb

theorem isStr_key (w : World) (k : Str) (t : Tok) : (strKind PG w).is k (.str k t) = true := by show Value.isStrOf k (.str k t) = true; simp [Value.isStrOf]

theorem W_setitem {x : Str} {p q pos : Pos} {ie e : Expr} {a : Addr} {l : List (Str × D)} {k : Str} {d : D} {rest : List Stmt} (hx : ρ x = some (OD c.w a l)) (h : Ev c ρ e d) (hk : Ev c ρ ie (.str k)) (hz : l.length ≤ 1000)
    (hq : W c (upd ρ x (OD c.w a (putD l k d))) rest Q) (hs : swapsWith e (some (.Subscript (.Name x p) ie q)) pos.line c.env = pure false := by rfl) : W c ρ (.Assign [.Subscript (.Name x p) ie q] e pos :: rest) Q := W_cons fun μ s t => by
  refine wpAny_Assign_Subscript (wpAny_mono (h μ s t) (fun v s1 q1 => ?_) fun _ _ x => x) hs
  have t1 := t.ext q1.1
  refine wpAny_mono (EvV_name hx μ s1 t1) (fun o s2 q2 => ?_) fun _ _ x => x
  have t2 := t1.ext q2.1
  refine wpAny_mono (hk μ s2 t2) (fun i s3 q3 => ?_) fun _ _ x => x
  have t3 := t2.ext q3.1
  have hv : Rp c.w μ s3.heap v d := Rp.ext t.mu72 q3.1 (Rp.ext t.mu72 q2.1 q1.2)
  have ho := SP.lv (c := c) hx μ s2 s3 o t2 q3.1 q2.2
  obtain ⟨rfl, kvs, hd, hr⟩ := ho
  obtain ⟨q3a, q3b⟩ := q3
  cases q3b using Rp.elimStr with
  | str tk =>
    refine wpAny_setItem_pairs (isStr_key c.w k tk) hd (fun h' hd' hs' => ?_) (by rw [hr.length, sizeLine_eq]; (first | lia | omega))
    have hR : ∀ u, odR c.w a l μ s3.heap u → odR c.w a (putD l k d) μ h' u := fun u hu => by
      refine ⟨hu.1, _, hd', ?_⟩
      have r1 := hr.put k hv
      exact RpK.keep (fun _ n => n) (fun b o n e => hs'.extBut b o (fun z => n (z ▸ ((t.frame.own x _ hx).2.2 a (by simp [OD, LV.adr])).1)) e) r1
    obtain ⟨t4, mv4⟩ := t3.setOwn (tk := s3.toks + 1) (R' := odR c.w a (putD l k d)) hx (by simp) (fun b o n e => hs'.extBut b o n e) (let ⟨o, _, _, ho, _⟩ := hd'; ⟨o, ho⟩) odR_stable hR
    exact ⟨Out.next _, μ, hq, ⟨rfl, t4⟩, (t.mv ((q1.1.trans q2.1).trans q3a)).trans mv4⟩

theorem StM.freeze {x : Str} {as : List Addr} {R : VP} {d : D} (t : StM c μ ρ s) (hx : ρ x = some (.own as R)) (hS : ∀ b, c.S b → ∃ y k, y ≠ x ∧ ρ y = some k ∧ b ∈ k.adr) (hR : ∀ v, R μ s.heap v → Rp c.w (fun b => μ b ∧ b ∉ as) s.heap v d) :
    StM c (fun b => μ b ∧ b ∉ as) (upd ρ x (.fz d)) s ∧ Mv c μ (fun b => μ b ∧ b ∉ as) s s := by
  obtain ⟨hok, hndp, hown⟩ := t.frame.own x _ hx
  have hb : ∀ a ∈ as, c.s₀.heap.objs.size ≤ a := fun a ha => (hown a ha).2.2.2.1.elim (fun z => z) fun z => (let ⟨y, k, n, e, q⟩ := hS a z; absurd q (t.frame.sep x y _ k hx e n.symm a ha))
  refine ⟨⟨t.room, t.g, t.keep, t.os, t.bare, fun a q => ⟨t.mu0 a q, fun ha => Nat.not_lt.mpr (hb a ha) (t.mu0lt a q)⟩, t.mu0lt, fun a q => t.mu1 a q.1, fun a q => t.live a q.1, ⟨t.mu72, fun ha => absurd (hown _ ha).2.2.2.2 (by decide)⟩,
    fun a q => t.ge a q.1, t.pr72, fun a q => ⟨t.prM a q, fun ha => (hown a ha).2.2.1 q⟩, ?_⟩, ⟨fun _ _ _ e => e, fun _ _ _ n z => n z.1⟩⟩
  have f := t.frame
  have hfp : ∀ a ∈ c.fp, μ a ∧ a ∉ as := fun a ha => ⟨t.fpM a ha, fun z => (hown a z).2.1 ha⟩
  refine ⟨f.kind, f.glob, f.blt, hfp _ List.mem_cons_self, f.baseL, fun p hp => hfp _ (List.mem_cons_of_mem _ (List.mem_map.mpr ⟨p, hp, rfl⟩)), f.cells, f.cellK, f.apart, f.cellsL, f.big, f.prL, ?_, ?_, ?_⟩
  · obtain ⟨m, hn, hv⟩ := f.var
    refine ⟨m, hn, fun y l e => ?_⟩
    unfold upd at e
    by_cases hy : y = x
    · rw [if_pos hy] at e; cases e; subst hy
      obtain ⟨ok, u, va, r⟩ := hv y _ hx
      exact ⟨ok, u, va, hR u r⟩
    · rw [if_neg hy] at e
      obtain ⟨ok, u, va, r⟩ := hv y l e
      exact ⟨ok, u, va, r.keep (f.own y l e).1 (fun _ _ _ n z => n z.1) fun _ _ _ e => e⟩
  · intro y l e
    unfold upd at e
    by_cases hy : y = x
    · rw [if_pos hy] at e; cases e; exact ⟨trivial, List.nodup_nil, fun _ h => by cases h⟩
    · rw [if_neg hy] at e
      obtain ⟨h1, h2, h3⟩ := f.own y l e
      exact ⟨h1, h2, fun a ha => ⟨⟨(h3 a ha).1, fun z => f.sep x y _ l hx e (fun q => hy q.symm) a z ha⟩, (h3 a ha).2⟩⟩
  · intro y z k j ey ez hne b hb'
    unfold upd at ey ez
    by_cases hy : y = x
    · rw [if_pos hy] at ey; cases ey; cases hb'
    · rw [if_neg hy] at ey
      by_cases hz : z = x
      · rw [if_pos hz] at ez; cases ez; intro h; cases h
      · rw [if_neg hz] at ez
        exact f.sep y z k j ey ez hne b hb'
theorem W_freezeD {x : Str} {a : Addr} {l : List (Str × D)} {ss : List Stmt} (hx : ρ x = some (OD c.w a l)) (hq : W c (upd ρ x (.fz (.dct l))) ss Q) (hS : ∀ b, c.S b → ∃ y k, y ≠ x ∧ ρ y = some k ∧ b ∈ k.adr := by exact fun _ h => h.elim) : W c ρ ss Q := fun μ s t => by
  have hbig : Big a := ((t.frame.own x _ hx).2.2 a (by simp [OD, LV.adr])).2.2.2.2
  obtain ⟨t', mv⟩ := t.freeze (d := .dct l) hx hS fun v r => by
    obtain ⟨rfl, kvs, hd, hr⟩ := r
    refine .dct (fun z => z.2 (by simp)) ?_ hd (hr.move (fun b o _ n z => n z.1) fun _ _ _ e => e)
    rw [beq_eq_false_iff_ne]; exact Nat.ne_of_gt (Nat.lt_of_lt_of_le (by decide) hbig)
  exact wpAny_mono (hq _ s t') (fun _ _ e => e.trans mv) fun _ _ x => x
theorem W_freezeL {x : Str} {a : Addr} {l : List D} {ss : List Stmt} (hx : ρ x = some (OL c.w a l)) (hq : W c (upd ρ x (.fz (.lst l))) ss Q) (hS : ∀ b, c.S b → ∃ y k, y ≠ x ∧ ρ y = some k ∧ b ∈ k.adr := by exact fun _ h => h.elim) : W c ρ ss Q := fun μ s t => by
  obtain ⟨t', mv⟩ := t.freeze (d := .lst l) hx hS fun v r => by
    obtain ⟨rfl, vs, n, hd, hr⟩ := r
    exact .lst (fun z => z.2 (by simp)) hd (hr.move (fun b o _ n z => n z.1) fun _ _ _ e => e)
  exact wpAny_mono (hq _ s t') (fun _ _ e => e.trans mv) fun _ _ x => x

theorem W_append {x : Str} {np apos pos spos : Pos} {e : Expr} {a : Addr} {l : List D} {d : D} {rest : List Stmt} (hx : ρ x = some (OL c.w a l)) (h : Ev c ρ e d) (hz : l.length ≤ 1000) (hq : W c (upd ρ x (OL c.w a (l ++ [d]))) rest Q)
    (hi : interactive c.env = false := by rfl) (hs : swapsWith (.Call (.Attribute (.Name x np) "append" apos) [e] [] pos) none spos.line c.env = pure false := by rfl)
    (hline : (apos.endLine == pos.line) = true := by rfl) (htrees : backTo pos (starEach [e] c.env) = [(false, eval e c.env)] := by rfl) :
    W c ρ (.Expr (.Call (.Attribute (.Name x np) "append" apos) [e] [] pos) spos :: rest) Q := W_cons fun μ s t => by
  refine wpAny_Expr (wpAny_Call_append rfl (by rw [htrees]; rfl) hline htrees ?_) hi hs
  refine wpAny_mono (EvV_name hx μ s t) (fun o s1 q1 => ?_) fun _ _ x => x
  have t1 := t.ext q1.1
  have q1r := q1.2
  obtain ⟨rfl, vs, n, ho, hr⟩ := q1r
  refine ⟨a, vs, rfl, ⟨_, n, ho, rfl, rfl, rfl⟩, ?_⟩
  refine wpAny_mono (h μ s1 t1) (fun v s2 q2 => ?_) fun _ _ x => x
  have t2 := t1.ext q2.1
  have ho2 := SP.lv (c := c) hx μ s1 s2 _ t1 q2.1 q1.2
  obtain ⟨_, vs', n', ho', hr'⟩ := ho2
  refine wpAny_list_append_plain ⟨n', ho'⟩ (fun h' hd' hs' => ?_) (by rw [← Array.length_toList, hr'.length, sizeLine_eq]; (first | lia | omega))
  obtain ⟨n3, ho3⟩ := hd'
  have hR : ∀ u, olR c.w a l μ s2.heap u → olR c.w a (l ++ [d]) μ h' u := fun u hu => by
    refine ⟨hu.1, _, n3, ho3, ?_⟩
    rw [Array.toList_push]
    have hμ := ((t.frame.own x _ hx).2.2 a (by simp [OL, LV.adr])).1
    refine RpL.append ?_ (.cons ?_ .nil)
    · exact RpL.keep (fun _ n => n) (fun b o n e => hs'.extBut b o (fun z => n (z ▸ hμ)) e) hr'
    · exact Rp.keep (fun _ n => n) (fun b o n e => hs'.extBut b o (fun z => n (z ▸ hμ)) e) q2.2
  obtain ⟨t4, mv4⟩ := t2.setOwn (tk := s2.toks) (R' := olR c.w a (l ++ [d])) hx (by simp) (fun b o n e => hs'.extBut b o n e) ⟨_, ho3⟩ olR_stable hR
  exact ⟨Out.next _, μ, hq, ⟨rfl, t4⟩, (t.mv (q1.1.trans q2.1)).trans mv4⟩

theorem Op2.itemOD {value slice : Expr} {a : Addr} {l : List (Str × D)} {k : Str} {d : D} (hs : noSlice slice = true) (hd : lookD l k = some d) : Op2 c ρ (fun o i => subscriptTail value slice o i) (odR c.w a l) (isD c.w (.str k)) (isD c.w d) := fun μ s v u t r r' => by
  cases r' using Rp.elimStr with
  | str tk =>
    obtain ⟨rfl, kvs, e, r⟩ := r
    obtain ⟨x, h1, h2⟩ := r.look hd
    exact tail_any e.typeIs slot_dict_getitem.lookup (wpAny_getItem_of (knd := strKind PG c.w) (k := k) (isStr_key c.w k tk) e.mapOf h1 ⟨Ext.toks s _, Rp.ext t.mu72 (Ext.toks s _) h2⟩) (sub_plain hs _ _)
theorem Ev_itemOD {x : Str} {np pos : Pos} {ie : Expr} {a : Addr} {l : List (Str × D)} {k : Str} {d : D} (hx : ρ x = some (OD c.w a l)) (hi : Ev c ρ ie (.str k)) (hd : lookD l k = some d) (hs : noSlice ie = true := by rfl) : Ev c ρ (.Subscript (.Name x np) ie pos) d :=
  EvV_sub (P1 := odR c.w a l) (EvV_name hx) hi (SP.lv hx) (.itemOD hs hd)
theorem lookD_isSome {l : List (Str × D)} {kvs : List (Str × Value)} {h : Heap} (r : RpK c.w μ h kvs l) (k : Str) : (valueAt kvs k).isSome = (lookD l k).isSome := by
  cases e : lookD l k with
  | some d => obtain ⟨v, h1, _⟩ := r.look e; rw [h1]; rfl
  | none => rw [r.lookNone e]; rfl
theorem Tst_inOD {e : Expr} {x : Str} {np pos : Pos} {a : Addr} {l : List (Str × D)} {k : Str} (hx : ρ x = some (OD c.w a l)) (hk : Ev c ρ e (.str k)) : Tst c ρ (.Compare e [.In] [.Name x np] pos) (lookD l k).isSome :=
  Tst_cmp (P2 := odR c.w a l) hk (EvV_name hx) (.isD _) fun μ s v u t r r' => by
    cases r using Rp.elimStr with
    | str tk =>
      obtain ⟨rfl, kvs, e, r⟩ := r'
      have hbig : Big a := ((t.frame.own x _ hx).2.2 a (by simp [OD, LV.adr])).2.2.2.2
      refine wpAny_in_of (knd := strKind PG c.w) (k := k) (isStr_key c.w k tk) ?_ e.mapOf ⟨Ext.toks s _, ?_⟩
      · rw [beq_eq_false_iff_ne]; exact Nat.ne_of_gt (Nat.lt_of_lt_of_le (by decide) hbig)
      · have : (valueAt kvs k).isSome = (lookD l k).isSome := lookD_isSome r k
        show Rp c.w μ _ (.bool (valueAt kvs k).isSome) _
        rw [this]; exact .bool _
end
end Mine
end

noncomputable section -- ML
open PySem PyProof.Rows
set_option maxRecDepth 100000
namespace Mine

noncomputable def namesOf : List Expr → List (Str × Pos)
  | .Name x p :: r => (x, p) :: namesOf r
  | _ => []

section
variable {c : Cx} {ρ : Loc} {μ : Addr → Prop} {s s' : Shared} {Q : Out → Prop}

theorem name_at {x : Str} {pos : Pos} {l : LV} (t : StM c μ ρ s) (hx : ρ x = some l) : ∃ v, l.Rep c.w μ s.heap v ∧ ∀ (Q' : Value → Shared → Prop), Q' v s → wpAny (model PG c.w) c.A (eval (.Name x pos) c.env) Q' NoE s := by
  obtain ⟨m, hn, hv⟩ := t.frame.var
  obtain ⟨ok, v, va, r⟩ := hv x l hx
  unfold okName at ok
  rw [Bool.and_eq_true, Bool.not_eq_true', Bool.not_eq_true'] at ok
  refine ⟨v, r, fun Q' q => wpAny_Name ?_ ok.1⟩
  rcases va with ⟨k, e⟩ | ⟨k | k, cl, e1, e2⟩
  · exact wpAny_loadName_local t.frame.kind k hn e q
  · exact wpAny_loadName_cell t.frame.kind k e1 e2 q
  · exact wpAny_loadName_free t.frame.kind k e1 e2 q ok.2

theorem wp_inOrder : ∀ (xs : List (Str × Pos)) (vs : List Value) (ds : List D) (ρ : Loc) (s : Shared) (R : Unit → Shared → Prop), StM c μ ρ s → (∀ x ∈ xs, Storable c x.1) → RpL c.w μ s.heap vs ds → vs.length = xs.length →
    (∀ s', StM c μ (locOf ρ (xs.map (·.1)) ds) s' → Mv c μ μ s s' → (∀ b o, b ∉ c.fp → s.heap.get? b = some o → s'.heap.get? b = some o) → R () s') →
    wpAny (model PG c.w) c.A (assignInOrder (xs.map fun x => assign (.Name x.1 x.2) c.env) vs) R NoE s
  | [], vs, ds, ρ, s, R, t, _, r, hl, h => by
    have : vs = [] := List.length_eq_zero_iff.mp hl
    subst this; cases r
    exact wpAny_pure (h s t .refl fun _ _ _ e => e)
  | x :: xs, vs, ds, ρ, s, R, t, hx, r, hl, h => by
    cases r with
    | nil => cases hl
    | @cons v vs d ds r1 r2 =>
      show wpAny _ _ (holding vs (assign (.Name x.1 x.2) c.env v) >>= fun _ => assignInOrder _ vs) R NoE s
      refine wpAny_bind (wpAny_holding (wpAny_assign_Name (wp_store' t (hx x List.mem_cons_self) .fz r1 fun s1 t1 mv hk => ?_)))
      refine wp_inOrder xs vs ds _ s1 R t1 (fun y hy => hx y (List.mem_cons_of_mem _ hy)) (r2.mv mv) (by simpa using hl) fun s2 t2 mv2 hk2 => h s2 t2 (mv.trans mv2) fun b o n e => hk2 b o n (hk b o n e)

theorem wp_unpack {elts : List Expr} {k : Nat} {pos : Pos} {ds : List D} {v : Value} {R : Unit → Shared → Prop} (t : StM c μ ρ s) (r : Rp c.w μ s.heap v (.tup ds)) (hl : ds.length = (namesOf elts).length) (hx : ∀ x ∈ namesOf elts, Storable c x.1)
    (he : assignEach elts c.env = (namesOf elts).map fun x => (false, assign (.Name x.1 x.2) c.env))
    (h : ∀ s', StM c μ (locOf ρ ((namesOf elts).map (·.1)) ds) s' → Mv c μ μ s s' → (∀ b o, b ∉ c.fp → s.heap.get? b = some o → s'.heap.get? b = some o) → R () s') : wpAny (model PG c.w) c.A (assign (.Tuple elts k pos) c.env v) R NoE s := by
  cases r using Rp.elimTup with
  | @tup a vs n ha e r =>
    have hvl : vs.toList.length = (namesOf elts).length := by rw [r.length, hl]
    refine wpAny_assign_Tuple t.room.1 ⟨_, e, rfl, n, rfl⟩ (by rw [he]; simpa using hvl.symm) (by rw [he]; generalize namesOf elts = xs; rw [List.findIdx?_eq_none_iff]; intro x hx; obtain ⟨_, _, rfl⟩ := List.mem_map.mp hx; rfl) fun h' hk => ?_
    have x1 : Ext s { s with heap := h' } := Ext.of_keep (tk := s.toks) fun b o e => hk b o (Nat.ne_of_lt (Heap.lt_size e)) e
    rw [he, List.map_map]
    refine wp_inOrder (namesOf elts) vs.toList ds ρ _ R (t.ext x1) hx (RpL.ext t.mu72 x1 r) hvl fun s2 t2 mv2 hk2 => h s2 t2 ((t.mv x1).trans mv2) fun b o n e => hk2 b o n (hk b o (Nat.ne_of_lt (Heap.lt_size e)) e)

theorem W_unpack {elts : List Expr} {e : Expr} {k : Nat} {tp pos : Pos} {ds : List D} {rest : List Stmt} (h : Ev c ρ e (.tup ds)) (hl : ds.length = (namesOf elts).length) (hx : ∀ x ∈ namesOf elts, Storable c x.1)
    (hq : W c (locOf ρ ((namesOf elts).map (·.1)) ds) rest Q)
    (he : assignEach elts c.env = (namesOf elts).map (fun x => (false, assign (.Name x.1 x.2) c.env)) := by rfl)
    (he1 : (assignEach [.Tuple elts k tp] c.env).map (·.2) = [assign (.Tuple elts k tp) c.env] := by rfl)
    (hs : swapsWithSole [.Tuple elts k tp] e pos.line c.env = pure false := by rfl) (hw : swappedStores [.Tuple elts k tp] e c.env = pure none := by rfl) : W c ρ (.Assign [.Tuple elts k tp] e pos :: rest) Q := W_cons fun μ s t => by
  refine wpAny_Assign_stores (wpAny_mono (h μ s t) (fun v s1 q1 => ?_) fun _ _ x => x) hs hw
  rw [he1]
  exact wp_unpack (t.ext q1.1) q1.2 hl hx he fun s2 t2 mv2 _ => ⟨Out.next _, μ, hq, ⟨rfl, t2⟩, (t.mv q1.1).trans mv2⟩
end
end Mine
end

noncomputable section -- MM
open PySem PyProof.Rows
set_option maxRecDepth 100000
namespace Mine
theorem RpK.getV {w : World} {μ : Addr → Prop} {h : Heap} {vs : List (Str × Value)} {ds : List (Str × D)} (r : RpK w μ h vs ds) {i : Nat} {k : Str} {v : Value} (e : vs[i]? = some (k, v)) : ∃ d, ds[i]? = some (k, d) ∧ Rp w μ h v d := by
  induction ds generalizing vs i with
  | nil => cases r; simp at e
  | cons x ds ih =>
    cases r with
    | @cons y v' vs d' _ a q =>
      cases i with
      | zero => simp at e; obtain ⟨rfl, rfl⟩ := e; exact ⟨_, rfl, a⟩
      | succ i => simp at e; obtain ⟨d', h1, h2⟩ := ih q e; exact ⟨d', by simpa using h1, h2⟩
section
variable {c : Cx} {ρ : Loc} {μ : Addr → Prop} {s s' : Shared} {Q : Out → Prop}

theorem X_for_items {x xk xv : Str} {px pk pv pt apos cpos pos : Pos} {k1 : Nat} {body : List Stmt} {l : List (Str × D)} (J : Nat → Loc → Prop) (hρ : ρ x = some (.fz (.dct l))) (hxk : Storable c xk) (hxv : Storable c xv) (h0 : J 0 ρ)
    (step : ∀ i k d ρ' g, l[i]? = some (k, d) → J i ρ' → W (c.guard g) (upd (upd ρ' xk (.fz (.str k))) xv (.fz d)) body (Turn (J (i + 1)) Q))
    (done : ∀ ρ', J l.length ρ' → Q (.next ρ'))
    (hline : (apos.endLine == cpos.line) = true := by rfl)
    (hbase : attributeBase (.Name x px) "items" c.env (eval (.Name x px) c.env) = eval (.Name x px) c.env := by rfl)
    (hs : ∀ v, foldedSetIterable (.Call (.Attribute (.Name x px) "items" apos) [] [] cpos) c.env v = pure v := by intro _; rfl) :
    X c ρ (.For (.Tuple [.Name xk pk, .Name xv pv] k1 pt) (.Call (.Attribute (.Name x px) "items" apos) [] [] cpos) body [] pos) Q := fun μ s t => by
  obtain ⟨v, r, hname⟩ := name_at (pos := px) t hρ
  cases r using Rp.elimDct with
  | @dct a kvs ha hS e r =>
    obtain ⟨ep, e'⟩ := e.dictAt
    refine wpAny_For (wpAny_Call_items hS e hbase hline hname ?_) hs
    have x1 := Ext.push s { cls := .type "dict_items", data := .fields #[.ref a] } s.toks
    refine wpAny_pyIter_items (knd := strKind PG c.w) (d := a) (kvs := kvs) (ep := ep) ⟨_, Heap.get?_push_size _ rfl, rfl, rfl⟩ (e'.push _) ?_
    have hsz : (s.heap.push { cls := .type "dict_items", data := .fields #[.ref a] }).objs.size = s.heap.objs.size + 1 := Heap.size_push ..
    generalize hs1 : ({ s with heap := s.heap.push { cls := .type "dict_items", data := .fields #[.ref a] } } : Shared) = s₁ at x1 ⊢
    have hsz1 : s₁.heap.objs.size = s.heap.objs.size + 1 := by rw [← hs1]; exact hsz
    have e1 : s₁.heap.DictAt (strKind PG c.w) a kvs ep := by rw [← hs1]; exact e'.push _
    have t1 := t.ext x1
    generalize hIe : s₁.heap.objs.size = I at *
    have hI1 : s₁.heap.objs.size ≤ I := Nat.le_of_eq hIe
    have hE := Ext.push s₁ { cls := .type "dict_itemiterator", data := .fields #[.none, .bool false, .ref a, .int 0 0, .int kvs.length 0, .int ep 0, .none, .none] } s₁.toks
    have hIt : IsItemIter (s₁.heap.push { cls := .type "dict_itemiterator", data := .fields #[.none, .bool false, .ref a, .int 0 0, .int kvs.length 0, .int ep 0, .none, .none] }) I a 0 kvs.length ep .none .none := hIe ▸ Heap.get?_push_size _ rfl
    have hDt : (s₁.heap.push { cls := .type "dict_itemiterator", data := .fields #[.none, .bool false, .ref a, .int 0 0, .int kvs.length 0, .int ep 0, .none, .none] }).DictAt (strKind PG c.w) a kvs ep := e1.push _
    generalize hs2 : ({ s₁ with heap := s₁.heap.push { cls := .type "dict_itemiterator", data := .fields #[.none, .bool false, .ref a, .int 0 0, .int kvs.length 0, .int ep 0, .none, .none] } } : Shared) = s₂ at hE ⊢
    replace hIt : IsItemIter s₂.heap I a 0 kvs.length ep .none .none := by rw [← hs2]; exact hIt
    replace hDt : s₂.heap.DictAt (strKind PG c.w) a kvs ep := by rw [← hs2]; exact hDt
    have haI : a ≠ I := Nat.ne_of_lt (Nat.lt_of_lt_of_le (Nat.lt_succ_of_lt e'.lt_size) (Nat.le_of_eq hsz1.symm))
    have hIfp : I ∉ c.fp := fun z => Nat.not_lt.mpr hI1 (t1.lt I (t1.fpM I z))
    have hI72 : I ≠ 72 := fun e => Nat.not_lt.mpr hI1 (t1.lt I (e ▸ t.mu72))
    have hIown : ∀ y l, ρ y = some l → I ∉ l.adr := fun y l e z => Nat.not_lt.mpr hI1 (t1.lt I ((t.frame.own y l e).2.2 I z).1)
    have hIb : c.s₀.heap.objs.size ≤ I := Nat.le_trans t1.size hI1
    have hIB : Big I := Nat.le_trans t1.g.size hI1
    have t2 : StM c (fun b => μ b ∨ b = I) ρ s₂ := t1.grow hE hI1 ⟨_, hIt⟩
    have t2g : StM (c.guard I) (fun b => μ b ∨ b = I) ρ s₂ := t2.guard (.inr rfl) hI72 hIfp hIown
    have mv2 : Mv c μ (fun b => μ b ∨ b = I) s s₂ := (t.mv x1).trans (.grow t1 hE hI1)
    have hprI : ¬ c.pr I := fun z => Nat.not_lt.mpr hI1 (t1.lt I (t1.prM I z))
    have h0I : ¬ c.μ₀ I := fun z => Nat.not_lt.mpr hI1 (t1.lt I (t1.mu0 I z))
    have hlen : kvs.length = l.length := r.length
    have ha2 : ¬ (μ a ∨ a = I) := fun z => z.elim ha haI
    refine codeAny_forLoop_any (fun n s' => ∃ μ' ρ' i ok ov, StM (c.guard I) μ' ρ' s' ∧ J i ρ' ∧ IsItemIter s'.heap I a i kvs.length ep ok ov ∧ Mv c (fun b => μ b ∨ b = I) μ' s₂ s' ∧ i ≤ l.length ∧ n = l.length + 1 - i) ?_ (l.length + 1)
      ⟨_, ρ, 0, .none, .none, t2g, h0, hIt, .refl, Nat.zero_le _, rfl⟩
    rintro n s' ⟨μ', ρ', i, ok, ov, t', hJ, hit', mv, hi, rfl⟩
    have hμI : μ' I := t'.prM I (.inr rfl)
    have hma : ¬ μ' a := by obtain ⟨o, _, ho, _⟩ := hDt; exact mv.mu a o ho ha2
    have hm' : s'.heap.DictAt (strKind PG c.w) a kvs ep := hDt.at fun o e => mv.frz a o (.inl ha2) e
    have hown' : ∀ y l, ρ' y = some l → I ∉ l.adr := fun y l e z => ((t'.frame.own y l e).2.2 I z).2.2.1 (.inr rfl)
    cases hv : kvs[i]? with
    | none =>
      have hsz : i = l.length := Nat.le_antisymm hi (by rw [← hlen]; simpa using hv)
      subst hsz
      refine wpAny_pyNext_items_end t.room.1 hit' hm' hv fun h' he₁ => ?_
      have hk' : ∀ b o, b ≠ I → s'.heap.get? b = some o → h'.get? b = some o := fun b o n e => he₁ b o n e
      have t3 : StM c (fun b => μ' b ∧ b ≠ I) ρ' { s' with heap := h' } := t'.unguard.pokeDrop (tk := s'.toks) hμI hk' hIb hIB hIfp hown' h0I hprI
      have mv3 : Mv c (fun b => μ b ∨ b = I) (fun b => μ' b ∧ b ≠ I) s₂ { s' with heap := h' } := mv.trans ⟨fun b o n e => hk' b o (by rintro rfl; exact n.elim (fun n => n hμI) hprI) e, fun _ _ _ n z => n z.1⟩
      exact wpAny_execs_nil ⟨_, _, done ρ' hJ, ⟨rfl, t3⟩, mv2.trans mv3⟩
    | some kv =>
      obtain ⟨k, v⟩ := kv
      have hlt : i < l.length := by rw [← hlen]; exact (List.getElem?_eq_some_iff.mp hv).1
      refine wpAny_pyNext_items_item hit' hm' hv fun key h₁ hkey heo ht₁ hz₁ hk₁ => ?_
      have hiH : I < s'.heap.objs.size := Heap.lt_size hit'
      refine wpAny_letOwnedTupleGo_items heo fun h₂ he₂ hs₂ => ?_
      replace hs₂ : Heap.SameBut I h₁ h₂ := hs₂
      have hk2 : ∀ b o, b ≠ I → s'.heap.get? b = some o → h₂.get? b = some o := fun b o n e => hs₂.extBut b o n (hk₁ b o n e)
      have ht₂ : h₂.get? s'.heap.objs.size = some (tupO #[key, v] 0) := (hs₂.2 _ (Nat.ne_of_gt hiH)).trans ht₁
      have t3 : StM (c.guard I) μ' ρ' { s' with heap := h₂, toks := s'.toks } := t'.poke hμI hk2 ⟨_, he₂⟩ hIb hIB hIfp hown'
      have mv3 : Mv c (fun b => μ b ∨ b = I) μ' s₂ { s' with heap := h₂ } := mv.trans ⟨fun b o n e => hk2 b o (by rintro rfl; exact n.elim (fun n => n hμI) hprI) e, fun _ _ _ n => n⟩
      obtain ⟨d, hd, rv⟩ := r.getV hv
      have rv3 : Rp c.w μ' h₂ v d := ((rv.mv mv2).mv mv3 :)
      obtain ⟨tk, rfl⟩ := Value.isStrOf_shape (show Value.isStrOf k key = true from hkey)
      have nT : ¬ μ' s'.heap.objs.size := fun z => Nat.lt_irrefl _ (t'.lt _ z)
      have rt : Rp c.w μ' h₂ (.ref s'.heap.objs.size) (.tup [.str k, d]) := .tup nT ht₂ (.cons (.str _ _) (.cons rv3 .nil))
      refine wpAny_mono (wp_unpack (c := c.guard I) (s := { s' with heap := h₂ }) t3 rt rfl (fun y hy => ?_) rfl (fun s4 t4 mv4 hk4 => ?_)) (fun _ _ z => z) fun _ _ z => z.elim
      · rcases List.mem_cons.mp hy with rfl | hy
        · exact hxk
        · rw [List.mem_singleton.mp hy]; exact hxv
      refine wpAny_mono (step i k d ρ' I hd hJ μ' s4 t4) (fun f s5 q => ?_) fun _ _ z => z.elim
      obtain ⟨o, μ5, q, r5, mv45⟩ := q
      have mv35 := mv4.trans mv45
      have mvT : Mv c (fun b => μ b ∨ b = I) μ5 s₂ s5 := mv3.trans mv35.unguard
      have hS5 : IsItemIter s5.heap I a (i + 1) kvs.length ep (.str k tk) v := mv35.frz I _ (.inr (.inr rfl)) he₂
      cases o with
      | next ρ'' => obtain ⟨rfl, r⟩ := r5; exact ⟨l.length + 1 - (i + 1), by (first | lia | omega), μ5, ρ'', i + 1, _, _, r, q, hS5, mvT, hlt, rfl⟩
      | cont ρ'' => obtain ⟨rfl, r⟩ := r5; exact ⟨l.length + 1 - (i + 1), by (first | lia | omega), μ5, ρ'', i + 1, _, _, r, q, hS5, mvT, hlt, rfl⟩
      | brk ρ'' => obtain ⟨rfl, r⟩ := r5; exact ⟨_, μ5, q, ⟨rfl, r.unguard⟩, mv2.trans mvT⟩
      | ret d ρ'' => obtain ⟨v, rfl, r, rr⟩ := r5; exact ⟨_, μ5, q, ⟨v, rfl, r.unguard, rr⟩, mv2.trans mvT⟩

theorem W_for_items {x xk xv : Str} {px pk pv pt apos cpos pos : Pos} {k1 : Nat} {body rest : List Stmt} {l : List (Str × D)} (J : Nat → Loc → Prop) (hρ : ρ x = some (.fz (.dct l))) (hxk : Storable c xk) (hxv : Storable c xv) (h0 : J 0 ρ)
    (step : ∀ i k d ρ' g, l[i]? = some (k, d) → J i ρ' → W (c.guard g) (upd (upd ρ' xk (.fz (.str k))) xv (.fz d)) body (Turn (J (i + 1)) (After c rest Q)))
    (done : ∀ ρ', J l.length ρ' → W c ρ' rest Q)
    (hline : (apos.endLine == cpos.line) = true := by rfl)
    (hbase : attributeBase (.Name x px) "items" c.env (eval (.Name x px) c.env) = eval (.Name x px) c.env := by rfl)
    (hs : ∀ v, foldedSetIterable (.Call (.Attribute (.Name x px) "items" apos) [] [] cpos) c.env v = pure v := by intro _; rfl) :
    W c ρ (.For (.Tuple [.Name xk pk, .Name xv pv] k1 pt) (.Call (.Attribute (.Name x px) "items" apos) [] [] cpos) body [] pos :: rest) Q := W_cons (X_for_items J hρ hxk hxv h0 step done hline hbase hs)
end
end Mine
end

noncomputable section -- MN
open PySem PyProof.Rows
set_option maxRecDepth 100000
namespace Mine

structure ZS (n t1 t2 : Addr) (xs ys : Array Value) (f0 : Value) (i j : Nat) (h : Heap) : Prop where
  z : IsZip h (n + 4) (n + 2) (n + 3) f0
  ins : IsPair h (n + 2) (.ref n) (.ref (n + 1))
  outs : ∃ a b, IsPair h (n + 3) a b
  i1 : h.IsTupleIter n t1 i
  i2 : h.IsTupleIter (n + 1) t2 j
  l1 : h.IsTuple t1 xs
  l2 : h.IsTuple t2 ys
  lt1 : t1 < n
  lt2 : t2 < n

section
variable {prog : Program} {w : World} {A : Around} {E : Value → Shared → Prop} {s : Shared} {n t1 t2 : Addr} {xs ys : Array Value} {f0 : Value} {i j : Nat}

theorem nextT_item {it l : Addr} {x : Value} {items : Array Value} {Q : Value → Shared → Prop} (hit : s.heap.IsTupleIter it l i) (hl : s.heap.IsTuple l items) (hx : items[i]? = some x)
    (hQ : ∀ h', h'.IsTupleIter it l (i + 1) → Heap.SameBut it s.heap h' → Q x { s with heap := h' }) : wpAny (model prog w) A (Builtin.SmallTypes.nextOf (.ref it)) Q E s := by
  obtain ⟨o, ho, hc, hd⟩ := id hit
  obtain ⟨ol, hol, _, nl, hdl⟩ := hl
  unfold Builtin.SmallTypes.nextOf
  refine wpAny_bind (wpAny_callSpecial?_slot (name := Str.ofString "__next__") hit.typeIs F.slot_tuple_iterator_next (wpAny_call_entry F.slot_tuple_iterator_next hit.typeIs F.entry_tuple_iterator_next ?_ (F.args_tuple_iterator_next_1 _)))
  show wpAny _ _ (field (.ref it) 0 >>= _) _ _ s
  refine wpAny_bind (wpAny_field ho hd (x := .ref l) rfl ?_)
  show wpAny _ _ (if (Value.ref l == Value.none) = true then _ else _) _ _ s
  rw [if_neg (show ¬ ((Value.ref l == Value.none) = true) from Bool.false_ne_true)]
  show wpAny _ _ (field (.ref it) 1 >>= _) _ _ s
  refine wpAny_bind (wpAny_field ho hd (x := .int i 0) rfl ?_)
  show wpAny _ _ (seqItems? (.ref l) >>= _) _ _ s
  refine wpAny_bind (wpAny_seqItems hol hdl ?_)
  simp only [Int.toNat_natCast, hx]
  refine wpAny_bind (wpAny_setField ho hd (by simp) (wpAny_pure ⟨x, rfl, wpAny_pure (hQ _ ?_ (Heap.SameBut.update ..))⟩))
  exact ⟨_, Heap.get?_update_self _ ho (Obj.isFreed_of_fields (Obj.data_mapFields hd _)), (Obj.cls_mapFields ..).trans hc, by rw [Obj.data_mapFields hd]; simp [rawInt]⟩

theorem nextT_end {it l : Addr} {items : Array Value} {Q : Value → Shared → Prop} (hh : A.handled = none) (hit : s.heap.IsTupleIter it l i) (hl : s.heap.IsTuple l items) (hx : items[i]? = none)
    (hE : ∀ h' e, Heap.ExtBut it s.heap h' → (∃ o, h'.get? e = some o ∧ o.cls = .type "StopIteration") → E (.ref e) { s with heap := h' }) : wpAny (model prog w) A (Builtin.SmallTypes.nextOf (.ref it)) Q E s := by
  obtain ⟨o, ho, hc, hd⟩ := id hit
  obtain ⟨ol, hol, _, nl, hdl⟩ := hl
  unfold Builtin.SmallTypes.nextOf
  refine wpAny_bind (wpAny_callSpecial?_slot (name := Str.ofString "__next__") hit.typeIs F.slot_tuple_iterator_next (wpAny_call_entry F.slot_tuple_iterator_next hit.typeIs F.entry_tuple_iterator_next ?_ (F.args_tuple_iterator_next_1 _)))
  show wpAny _ _ (field (.ref it) 0 >>= _) _ _ s
  refine wpAny_bind (wpAny_field ho hd (x := .ref l) rfl ?_)
  show wpAny _ _ (if (Value.ref l == Value.none) = true then _ else _) _ _ s
  rw [if_neg (show ¬ ((Value.ref l == Value.none) = true) from Bool.false_ne_true)]
  show wpAny _ _ (field (.ref it) 1 >>= _) _ _ s
  refine wpAny_bind (wpAny_field ho hd (x := .int i 0) rfl ?_)
  show wpAny _ _ (seqItems? (.ref l) >>= _) _ _ s
  refine wpAny_bind (wpAny_seqItems hol hdl ?_)
  simp only [Int.toNat_natCast, hx]
  refine wpAny_bind (wpAny_rule (wpAny_bind (wpAny_setField ho hd (by simp) ?_)))
  show wpAny _ _ (newExc (.type "StopIteration") [] >>= _) _ _ _
  refine wpAny_bind ?_
  simp only [newExc, newTuple]
  refine wpAny_bind (wpAny_newObj_type ?_ (by size_fits))
  refine wpAny_bind (m := firstArgMember _ _) (wpAny_of_eq (a := Value.none) (by first | rfl | (simp only [firstArgMember]; rfl)) ?_)
  refine wpAny_newObj_type ?_ (by size_fits)
  simp only [raiseNew]
  refine wpAny_bind (wpAny_handled ?_)
  first | rw [show A.in1.handled = none from hh] | rw [hh]
  refine wpAny_bind (wpAny_pure (wpAny_throw ?_))
  exact hE _ _ (((Heap.SameBut.update ..).extBut.push _).push _) ⟨_, Heap.get?_push_size _ rfl, rfl⟩

theorem off {n : Addr} {a b : Nat} (h : a ≠ b) : n + a ≠ n + b := by intro e; exact h (Nat.add_left_cancel e)
theorem off0 {n : Addr} {b : Nat} (h : b ≠ 0) : n ≠ n + b := Nat.ne_of_lt (Nat.lt_add_of_pos_right (Nat.pos_of_ne_zero h))
theorem offt {n t : Addr} (h : t < n) (b : Nat) : t ≠ n + b := Nat.ne_of_lt (Nat.lt_of_lt_of_le h (Nat.le_add_right _ _))

theorem ZS.drawn (x : ZS n t1 t2 xs ys f0 i j s.heap) {h' : Heap} {k m : Nat} {g0 : Value} (hk : ∀ b o, b ≠ n → b ≠ n + 1 → b ≠ n + 3 → b ≠ n + 4 → s.heap.get? b = some o → h'.get? b = some o)
    (hz : IsZip h' (n + 4) (n + 2) (n + 3) g0) (ho : ∃ a b, IsPair h' (n + 3) a b) (h1 : h'.IsTupleIter n t1 k) (h2 : h'.IsTupleIter (n + 1) t2 m) : ZS n t1 t2 xs ys g0 k m h' :=
  ⟨hz, hk _ _ (off0 (by decide)).symm (off (by decide)) (off (by decide)) (off (by decide)) x.ins, ho, h1, h2, (let ⟨o, e, r⟩ := x.l1; ⟨o, hk _ o (Nat.ne_of_lt x.lt1) (offt x.lt1 1) (offt x.lt1 3) (offt x.lt1 4) e, r⟩),
    (let ⟨o, e, r⟩ := x.l2; ⟨o, hk _ o (Nat.ne_of_lt x.lt2) (offt x.lt2 1) (offt x.lt2 3) (offt x.lt2 4) e, r⟩), x.lt1, x.lt2⟩

theorem zipT_next {x y : Value} {Q : Value → Shared → Prop} (zs : ZS n t1 t2 xs ys .none i i s.heap) (hx : xs[i]? = some x) (hy : ys[i]? = some y)
    (hQ : ∀ h', ZS n t1 t2 xs ys (rawInt s.heap.objs.size) (i + 1) (i + 1) h' → IsPair h' s.heap.objs.size x y → h'.objs.size = s.heap.objs.size + 1 →
      (∀ b o, b ≠ n → b ≠ n + 1 → b ≠ n + 3 → b ≠ n + 4 → s.heap.get? b = some o → h'.get? b = some o) → Q (.ref s.heap.objs.size) { s with heap := h' }) :
    wpAny (model prog w) A (Builtin.«zip.__next__» ⟨[.ref (n + 4)], []⟩) (fun fin s' => ∃ v, fin = .done (.ret v) ∧ Q v s') E s := by
  have d43 : n + 3 ≠ n + 4 := off (by decide)
  have d41 : n + 1 ≠ n + 4 := off (by decide)
  have d40 : n ≠ n + 4 := off0 (by decide)
  have d30 : n ≠ n + 3 := off0 (by decide)
  have d31 : n + 1 ≠ n + 3 := off (by decide)
  have d10 : n ≠ n + 1 := off0 (by decide)
  show wpAny _ _ (field (.ref (n + 4)) 2 >>= _) _ _ _
  refine wpAny_bind (wpAny_field zs.z rfl (x := .bool false) rfl ?_)
  show wpAny _ _ (field (.ref (n + 4)) 3 >>= _) _ _ _
  refine wpAny_bind (wpAny_field zs.z rfl (x := .ref (n + 2)) rfl ?_)
  refine wpAny_bind (wpAny_seqItems zs.ins rfl ?_)
  show wpAny _ _ (Builtin.SmallTypes.ownedTupleIsFree (.ref (n + 4)) >>= _) _ _ _
  refine wpAny_bind ?_
  unfold Builtin.SmallTypes.ownedTupleIsFree
  refine wpAny_bind (wpAny_field zs.z rfl (x := .none) rfl (wpAny_pure ?_))
  simp only [if_true]
  refine wpAny_bind (wpAny_rule ?_)
  refine wpAny_bind (wpAny_field zs.z rfl (x := .ref (n + 3)) rfl ?_)
  refine wpAny_bind (wpAny_setField_rec zs.z (by simp) fun h₁ hz₁ hs₁ => ?_)
  replace hz₁ : IsZip h₁ (n + 4) (n + 2) (n + 3) .ellipsis := hz₁
  refine wpAny_bind ?_
  simp only [List.zipIdx_cons, List.zipIdx_nil, List.forIn_cons, List.forIn_nil]
  refine wpAny_bind (wpAny_bind (wpAny_onRaise ?_))
  obtain ⟨a, b, hTO⟩ := zs.outs
  show wpAny _ _ (Builtin.SmallTypes.nextOf (.ref n) >>= _) _ _ _
  refine wpAny_bind (nextT_item (zs.i1.extBut hs₁.extBut d40) (zs.l1.extBut hs₁.extBut (offt zs.lt1 4)) hx fun h₂ h1₂ hs₂ => wpAny_pure ?_)
  have hTO₂ : IsPair h₂ (n + 3) a b := hs₂.extBut _ _ d30.symm (hs₁.extBut _ _ d43 hTO)
  refine wpAny_bind (wpAny_seqItems hTO₂ rfl ?_)
  refine wpAny_bind (wpAny_updateSeq_pair hTO₂ fun h₃ hTO₃ hs₃ => ?_)
  replace hTO₃ : IsPair h₃ (n + 3) x b := hTO₃
  refine wpAny_bind (wpAny_letGo (wpAny_pure ?_))
  refine wpAny_bind (wpAny_bind (wpAny_onRaise ?_))
  show wpAny _ _ (Builtin.SmallTypes.nextOf (.ref (n + 1)) >>= _) _ _ _
  refine wpAny_bind (nextT_item (((zs.i2.extBut hs₁.extBut d41).extBut hs₂.extBut d10.symm).extBut hs₃.extBut d31)
    (((zs.l2.extBut hs₁.extBut (offt zs.lt2 4)).extBut hs₂.extBut (Nat.ne_of_lt zs.lt2)).extBut hs₃.extBut (offt zs.lt2 3)) hy fun h₄ h2₄ hs₄ => wpAny_pure ?_)
  have hTO₄ : IsPair h₄ (n + 3) x b := hs₄.extBut _ _ d31.symm hTO₃
  refine wpAny_bind (wpAny_seqItems hTO₄ rfl ?_)
  refine wpAny_bind (wpAny_updateSeq_pair hTO₄ fun h₅ hTO₅ hs₅ => ?_)
  replace hTO₅ : IsPair h₅ (n + 3) x y := hTO₅
  refine wpAny_bind (wpAny_letGo (wpAny_pure (wpAny_pure ?_)))
  refine wpAny_bind (wpAny_seqItems hTO₅ rfl ?_)
  refine wpAny_bind (wpAny_newTuple ?_)
  have hsz : h₅.objs.size = s.heap.objs.size := by rw [hs₅.1, hs₄.1, hs₃.1, hs₂.1, hs₁.1]
  have hz₅ : IsZip h₅ (n + 4) (n + 2) (n + 3) .ellipsis := hs₅.extBut _ _ d43.symm (hs₄.extBut _ _ d41.symm (hs₃.extBut _ _ d43.symm (hs₂.extBut _ _ d40.symm hz₁)))
  have hk₅ : ∀ b o, b ≠ n → b ≠ n + 1 → b ≠ n + 3 → b ≠ n + 4 → s.heap.get? b = some o → h₅.get? b = some o := fun b o c1 c2 c3 c4 e =>
    hs₅.extBut _ _ c3 (hs₄.extBut _ _ c2 (hs₃.extBut _ _ c3 (hs₂.extBut _ _ c1 (hs₁.extBut _ _ c4 e))))
  have h1₅ : h₅.IsTupleIter n t1 (i + 1) := ((h1₂.extBut hs₃.extBut d30).extBut hs₄.extBut d10).extBut hs₅.extBut d30
  have h2₅ : h₅.IsTupleIter (n + 1) t2 (i + 1) := h2₄.extBut hs₅.extBut d31
  have hzlt : n + 4 < h₅.objs.size := Heap.lt_size hz₅
  show wpAny _ _ (Builtin.SmallTypes.ownedTupleHandOut (.ref (n + 4)) (.ref h₅.objs.size) >>= _) _ _ _
  refine wpAny_bind ?_
  unfold Builtin.SmallTypes.ownedTupleHandOut
  have hz₆ : IsZip (h₅.push { cls := .type "tuple", data := .seq #[x, y] }) (n + 4) (n + 2) (n + 3) .ellipsis := Heap.get?_push_of_some _ hz₅
  refine wpAny_bind (wpAny_setField_rec hz₆ (by simp) fun h₇ hz₇ hs₇ => ?_)
  replace hz₇ : IsZip h₇ (n + 4) (n + 2) (n + 3) (rawInt h₅.objs.size) := hz₇
  refine wpAny_setField_rec hz₇ (by simp) fun h₈ hz₈ hs₈ => ?_
  replace hz₈ : IsZip h₈ (n + 4) (n + 2) (n + 3) (rawInt h₅.objs.size) := hz₈
  have up : ∀ c o, c ≠ n + 4 → h₅.get? c = some o → h₈.get? c = some o := fun c o c1 e => hs₈.extBut _ _ c1 (hs₇.extBut _ _ c1 (Heap.get?_push_of_some _ e))
  have hT₈ : IsPair h₈ h₅.objs.size x y := hs₈.extBut _ _ (Nat.ne_of_gt hzlt) (hs₇.extBut _ _ (Nat.ne_of_gt hzlt) (Heap.get?_push_size _ rfl))
  have hz8 : h₈.objs.size = h₅.objs.size + 1 := by rw [hs₈.1, hs₇.1, Heap.size_push]
  rw [hsz] at hz₈ hT₈ hz8
  refine wpAny_pure ⟨_, rfl, ?_⟩
  show Q (.ref h₅.objs.size) _
  rw [hsz]
  have hkk : ∀ b o, b ≠ n → b ≠ n + 1 → b ≠ n + 3 → b ≠ n + 4 → s.heap.get? b = some o → h₈.get? b = some o := fun b o c1 c2 c3 c4 e => up b o c4 (hk₅ b o c1 c2 c3 c4 e)
  exact hQ h₈ (zs.drawn hkk hz₈ ⟨_, _, up _ _ d43 hTO₅⟩ (let ⟨o, e, r⟩ := h1₅; ⟨o, up _ o d40 e, r⟩) (let ⟨o, e, r⟩ := h2₅; ⟨o, up _ o d41 e, r⟩)) hT₈ hz8 hkk

theorem zipT_stop {Q : Fin → Shared → Prop} (hh : A.handled = none) (zs : ZS n t1 t2 xs ys .none i i s.heap) (hx : xs[i]? = none)
    (hE : ∀ h' e, (∀ b o, b ≠ n → b ≠ n + 1 → b ≠ n + 3 → b ≠ n + 4 → s.heap.get? b = some o → h'.get? b = some o) → (∃ o, h'.get? e = some o ∧ o.cls = .type "StopIteration") → E (.ref e) { s with heap := h' }) :
    wpAny (model prog w) A (Builtin.«zip.__next__» ⟨[.ref (n + 4)], []⟩) Q E s := by
  have d40 : n ≠ n + 4 := off0 (by decide)
  show wpAny _ _ (field (.ref (n + 4)) 2 >>= _) _ _ _
  refine wpAny_bind (wpAny_field zs.z rfl (x := .bool false) rfl ?_)
  show wpAny _ _ (field (.ref (n + 4)) 3 >>= _) _ _ _
  refine wpAny_bind (wpAny_field zs.z rfl (x := .ref (n + 2)) rfl ?_)
  refine wpAny_bind (wpAny_seqItems zs.ins rfl ?_)
  show wpAny _ _ (Builtin.SmallTypes.ownedTupleIsFree (.ref (n + 4)) >>= _) _ _ _
  refine wpAny_bind ?_
  unfold Builtin.SmallTypes.ownedTupleIsFree
  refine wpAny_bind (wpAny_field zs.z rfl (x := .none) rfl (wpAny_pure ?_))
  simp only [if_true]
  refine wpAny_bind (wpAny_rule ?_)
  refine wpAny_bind (wpAny_field zs.z rfl (x := .ref (n + 3)) rfl ?_)
  refine wpAny_bind (wpAny_setField_rec zs.z (by simp) fun h₁ hz₁ hs₁ => ?_)
  replace hz₁ : IsZip h₁ (n + 4) (n + 2) (n + 3) .ellipsis := hz₁
  refine wpAny_bind ?_
  simp only [List.zipIdx_cons, List.zipIdx_nil, List.forIn_cons, List.forIn_nil]
  refine wpAny_bind (wpAny_bind (wpAny_onRaise ?_))
  show wpAny _ _ (Builtin.SmallTypes.nextOf (.ref n) >>= _) _ _ _
  refine wpAny_bind (nextT_end hh (zs.i1.extBut hs₁.extBut d40) (zs.l1.extBut hs₁.extBut (offt zs.lt1 4)) hx fun h₂ e hs₂ he => ?_)
  obtain ⟨oe, hoe, hce⟩ := he
  have hz₂ : IsZip h₂ (n + 4) (n + 2) (n + 3) .ellipsis := hs₂ _ _ d40.symm hz₁
  have hez : e ≠ n + 4 := fun x => by subst x; rw [hz₂] at hoe; cases hoe; simp at hce
  exact wpAny_setField_rec hz₂ (by simp) fun h₃ _ hs₃ => hE h₃ e (fun c o c1 _ _ c4 x => hs₃.extBut _ _ c4 (hs₂ _ _ c1 (hs₁.extBut _ _ c4 x))) ⟨oe, hs₃.extBut _ _ hez hoe, hce⟩

theorem ZS.frame {h h' : Heap} (x : ZS n t1 t2 xs ys f0 i j h) (hk : ∀ b ∈ [n + 4, n + 2, n + 3, n, n + 1, t1, t2], ∀ o, h.get? b = some o → h'.get? b = some o) : ZS n t1 t2 xs ys f0 i j h' :=
  ⟨hk _ (by simp) _ x.z, hk _ (by simp) _ x.ins, (let ⟨a, b, e⟩ := x.outs; ⟨a, b, hk _ (by simp) _ e⟩), (let ⟨o, e, r⟩ := x.i1; ⟨o, hk _ (by simp) o e, r⟩), (let ⟨o, e, r⟩ := x.i2; ⟨o, hk _ (by simp) o e, r⟩),
    (let ⟨o, e, r⟩ := x.l1; ⟨o, hk _ (by simp) o e, r⟩), (let ⟨o, e, r⟩ := x.l2; ⟨o, hk _ (by simp) o e, r⟩), x.lt1, x.lt2⟩

theorem walksZ (hh : A.handled = none) (n t1 t2 : Addr) (xs ys : Array Value) (hsz : ys.size = xs.size) :
    WalksU prog w A (n + 4) [n + 4, n + 2, n + 3, n, n + 1, t1, t2] [n + 4, n + 3, n, n + 1] xs.size (fun i vals => ∃ x y, xs[i]? = some x ∧ ys[i]? = some y ∧ vals = #[x, y])
      (fun i h => ZS n t1 t2 xs ys .none i i h) (fun i T h => ZS n t1 t2 xs ys (rawInt T) (i + 1) (i + 1) h ∧ T ≠ n + 4 ∧ T ≠ n + 3 ∧ T ≠ n ∧ T ≠ n + 1) where
  sub := fun b hb => by simp at hb ⊢; rcases hb with rfl | rfl | rfl | rfl <;> simp
  frame := fun i h h' st hk => st.frame hk
  item := fun i s Q E hi st hQ => by
    have hT : s.TypeIs (.ref (n + 4)) "zip" := ⟨_, st.z, rfl⟩
    have hx : xs[i]? = some xs[i] := Array.getElem?_eq_getElem hi
    have hy : ys[i]? = some (ys[i]'(by (first | lia | omega))) := Array.getElem?_eq_getElem (by (first | lia | omega))
    unfold pyNext
    refine wpAny_bind (wpAny_attempt (wpAny_callSpecial?_slot (name := Str.ofString "__next__") hT F.slot_zip_next (wpAny_call_entry F.slot_zip_next hT F.entry_zip_next
      (zipT_next st hx hy fun h' a1 a2 a3 hk => wpAny_pure ?_) (F.args_zip_next_1 _))))
    have lt : ∀ {c o}, s.heap.get? c = some o → s.heap.objs.size ≠ c := fun e => Nat.ne_of_gt (Heap.lt_size e)
    exact hQ _ #[_, _] h' s.toks ⟨_, _, hx, hy, rfl⟩ ⟨_, a2, rfl, _, rfl⟩ ⟨a1, lt st.z, (let ⟨_, _, e⟩ := st.outs; lt e), (let ⟨_, e, _⟩ := st.i1; lt e), (let ⟨_, e, _⟩ := st.i2; lt e)⟩
      fun b o hb e => hk b o (fun z => hb (by simp [z])) (fun z => hb (by simp [z])) (fun z => hb (by simp [z])) (fun z => hb (by simp [z])) e
  go := fun elts k pos i T s Q E hm hQ => by
    obtain ⟨st, _⟩ := hm
    refine wpAny_letOwnedTupleGo_zip st.z fun h' hz' hs' => hQ h' ?_ fun c o hc e => hs'.extBut _ _ (fun x => hc (by simp [x])) e
    obtain ⟨a, b, e⟩ := st.outs
    exact st.drawn (fun b o _ _ _ n e => hs'.extBut _ _ n e) hz' ⟨a, b, hs'.extBut _ _ (off (by decide)) e⟩ (st.i1.extBut hs'.extBut (off0 (by decide))) (st.i2.extBut hs'.extBut (off (by decide)))
  apart := fun i T h hm hT => by
    obtain ⟨_, t1, t2, t3, t4⟩ := hm
    simp at hT
    rcases hT with h | h | h | h
    · exact t1 h
    · exact t2 h
    · exact t3 h
    · exact t4 h
  done := fun s Q E st hQ => by
    have hT : s.TypeIs (.ref (n + 4)) "zip" := ⟨_, st.z, rfl⟩
    unfold pyNext
    refine wpAny_bind (wpAny_attempt (wpAny_callSpecial?_slot (name := Str.ofString "__next__") hT F.slot_zip_next (wpAny_call_entry F.slot_zip_next hT F.entry_zip_next
      (zipT_stop hh st (Array.getElem?_eq_none (Nat.le_refl _)) fun h' e hk he => ?_) (F.args_zip_next_1 _))))
    obtain ⟨o, ho, hc⟩ := he
    refine wpAny_bind (wpAny_isInstance (T := "StopIteration") (b := true) ⟨o, ho, hc⟩ isSubtype_stop ?_)
    exact wpAny_pure (hQ _ s.toks fun b o hb e => hk b o (fun z => hb (by simp [z])) (fun z => hb (by simp [z])) (fun z => hb (by simp [z])) (fun z => hb (by simp [z])) e)
  self := fun i s Q E st hQ => wpAny_pyIter_zip st.z hQ
end
end Mine
end

noncomputable section -- MO
open PySem PyProof.Rows
set_option maxRecDepth 100000
namespace Mine

section
variable {prog : Program} {w : World} {A : Around} {E : Value → Shared → Prop} {s : Shared}

noncomputable abbrev zT1 (h : Heap) (l1 : Addr) : Heap := h.push { cls := .type "tuple_iterator", data := .fields #[.ref l1, .int 0 0] }
noncomputable abbrev zT2 (h : Heap) (l1 l2 : Addr) : Heap := (zT1 h l1).push { cls := .type "tuple_iterator", data := .fields #[.ref l2, .int 0 0] }
noncomputable abbrev zT3 (h : Heap) (l1 l2 : Addr) : Heap := (zT2 h l1 l2).push { cls := .type "tuple", data := .seq #[.ref h.objs.size, .ref (zT1 h l1).objs.size] }
noncomputable abbrev zT4 (h : Heap) (l1 l2 : Addr) : Heap := (zT3 h l1 l2).push { cls := .type "tuple", data := .seq #[.none, .none] }
noncomputable abbrev zT5 (h : Heap) (l1 l2 : Addr) : Heap := (zT4 h l1 l2).push { cls := .type "zip", data := .fields #[.none, .bool false, .bool false, .ref (zT2 h l1 l2).objs.size, .ref (zT3 h l1 l2).objs.size] }

theorem meets_zipT (l1 l2 : Addr) (xs ys : Array Value) :
    Meets (Builtin.«zip.__new__» ⟨[.type "zip", .ref l1, .ref l2], []⟩) (fun _ R s => s.heap.IsTuple l1 xs ∧ s.heap.IsTuple l2 ys ∧ R (.ok (.ret (.ref (zT4 s.heap l1 l2).objs.size))) { s with heap := zT5 s.heap l1 l2 }) :=
  .of_wp fun prog w A R s h => by
    obtain ⟨hp, g, d, tk, os⟩ := s; obtain ⟨hl1, hl2, h⟩ := h
    have hsub := sub_zip
    have hL1 : Heap.IsTuple (Shared.heap ⟨hp, g, d, tk, os⟩) l1 xs := hl1
    have hL2 : Heap.IsTuple (Shared.heap ⟨hp.push { cls := .type "tuple_iterator", data := .fields #[.ref l1, .int 0 0] }, g, d, tk, os⟩) l2 ys := Heap.IsTuple.push hl2 _
    wp_walk using wpAny_pyIter_tuple hL1, wpAny_pyIter_tuple hL2
    exact ⟨_, rfl, h⟩

theorem call_zipT {l1 l2 : Addr} {xs ys : Array Value} {Q : Value → Shared → Prop} (hl1 : s.heap.IsTuple l1 xs) (hl2 : s.heap.IsTuple l2 ys)
    (h : ∀ h', ZS s.heap.objs.size l1 l2 xs ys .none 0 0 h' → h'.objs.size = s.heap.objs.size + 5 → (∀ c o, s.heap.get? c = some o → h'.get? c = some o) → Q (.ref (s.heap.objs.size + 4)) { s with heap := h' }) :
    wpAny (model prog w) A (call (.type "zip") [.ref l1, .ref l2]) Q E s := by
  refine callType_new F.called_zip (by decide) (F.typeCall_zip_2 _ _) (F.newCall_zip_2 _ _) (fun obj => F.args_object_init_3 obj _ _) F.entry_zip_new (meets_zipT l1 l2 xs ys) ⟨hl1, hl2, ?_⟩
  have z1 : (zT1 s.heap l1).objs.size = s.heap.objs.size + 1 := Heap.size_push ..
  have z2 : (zT2 s.heap l1 l2).objs.size = s.heap.objs.size + 2 := by rw [Heap.size_push, z1]
  have z3 : (zT3 s.heap l1 l2).objs.size = s.heap.objs.size + 3 := by rw [Heap.size_push, z2]
  have z4 : (zT4 s.heap l1 l2).objs.size = s.heap.objs.size + 4 := by rw [Heap.size_push, z3]
  have z5 : (zT5 s.heap l1 l2).objs.size = s.heap.objs.size + 5 := by rw [Heap.size_push, z4]
  have g5 : (zT5 s.heap l1 l2).get? (zT4 s.heap l1 l2).objs.size = some _ := Heap.get?_push_size _ rfl
  have g4 : (zT5 s.heap l1 l2).get? (zT3 s.heap l1 l2).objs.size = some _ := Heap.get?_push_of_some _ (Heap.get?_push_size _ rfl)
  have g3 : (zT5 s.heap l1 l2).get? (zT2 s.heap l1 l2).objs.size = some _ := Heap.get?_push_of_some _ (Heap.get?_push_of_some _ (Heap.get?_push_size _ rfl))
  have g2 : (zT5 s.heap l1 l2).get? (zT1 s.heap l1).objs.size = some _ := Heap.get?_push_of_some _ (Heap.get?_push_of_some _ (Heap.get?_push_of_some _ (Heap.get?_push_size _ rfl)))
  have g1 : (zT5 s.heap l1 l2).get? s.heap.objs.size = some _ := Heap.get?_push_of_some _ (Heap.get?_push_of_some _ (Heap.get?_push_of_some _ (Heap.get?_push_of_some _ (Heap.get?_push_size _ rfl))))
  show _ ∧ _
  rw [z2, z3, z4] at g5
  rw [z1, z2] at g3
  rw [z3] at g4
  rw [z1] at g2
  rw [z4]
  have hk : ∀ c o, s.heap.get? c = some o → (zT5 s.heap l1 l2).get? c = some o := fun c o x => Heap.get?_push_of_some _ (Heap.get?_push_of_some _ (Heap.get?_push_of_some _ (Heap.get?_push_of_some _ (Heap.get?_push_of_some _ x))))
  exact ⟨⟨_, g5, rfl⟩, h _ ⟨g5, g3, ⟨_, _, g4⟩, ⟨_, g1, rfl, rfl⟩, ⟨_, g2, rfl, rfl⟩, (let ⟨o, e, r⟩ := hl1; ⟨o, hk _ o e, r⟩), (let ⟨o, e, r⟩ := hl2; ⟨o, hk _ o e, r⟩), (let ⟨_, e, _⟩ := hl1; Heap.lt_size e), (let ⟨_, e, _⟩ := hl2; Heap.lt_size e)⟩ z5 hk⟩
end
end Mine
end

noncomputable section -- MP
open PySem PyProof.Rows
set_option maxRecDepth 100000
namespace Mine

theorem RpL_of_get {w : World} {μ : Addr → Prop} {h : Heap} : ∀ (vs : List Value) (ds : List D), vs.length = ds.length → (∀ (j : Nat) v, vs[j]? = some v → ∃ d, ds[j]? = some d ∧ Rp w μ h v d) → RpL w μ h vs ds
  | [], [], _, _ => .nil
  | [], _ :: _, h, _ => by cases h
  | _ :: _, [], h, _ => by cases h
  | v :: vs, d :: ds, hl, hg => by
    obtain ⟨d', e, r⟩ := hg 0 v rfl
    cases (by simpa using e : d = d')
    exact .cons r (RpL_of_get vs ds (by simpa using hl) fun j u hu => by
      obtain ⟨d', e, r⟩ := hg (j + 1) u (by simpa using hu)
      exact ⟨d', by simpa using e, r⟩)

section
variable {c : Cx} {ρ : Loc} {μ : Addr → Prop} {s s' : Shared} {Q : Out → Prop}

theorem old_lt (t : StM c μ ρ s) (x : Ext s s') : ∀ b o, s.heap.get? b = some o → b < s'.heap.objs.size := fun b o e => by
  by_cases h : b = 72
  · subst h; exact (t.ext x).lt 72 t.mu72
  · exact Heap.lt_size (x.keep b o e h)

theorem wp_gcode {gpos : Pos} {q : Str} {scope : Scope} (t : StM c μ ρ s) (hc : c.env.code = .ref 76) :
    wpAny (model PG c.w) c.A (genexprCode c.env gpos q scope) (fun _ s' => Ext s s' ∧ s'.gens = s.gens) NoE s := by
  obtain ⟨ps, h1, h2⟩ := t.g.tab
  cases hf : codeAmong gpos ps.toList with
  | some c' => exact wpAny_genexprCode_hit hc h1 hf ⟨.refl _, rfl⟩
  | none =>
    refine wpAny_genexprCodeX hc h1 h2 hf fun c' h' tk hx _ _ hcode _ htab _ => ⟨⟨fun b o e n => hx b o n e, rfl, fun z => z, fun _ => ⟨_, hcode, htab⟩⟩, rfl⟩

theorem wp_zip {zp zpos : Pos} {e1 e2 : Expr} {xs ys : List D} (t : StM c μ ρ s) (h1 : Ev c ρ e1 (.tup xs)) (h2 : Ev c ρ e2 (.tup ys)) (hk : c.env.kindOf "zip" = some .globalImplicit)
    (he : starEach [e1, e2] c.env = (false, eval e1 c.env) :: starEach [e2] c.env := by rfl) (he' : starEach [e2] c.env = [(false, eval e2 c.env)] := by rfl) :
    wpAny (model PG c.w) c.A (eval (.Call (.Name "zip" zp) [e1, e2] [] zpos) c.env) (fun v s' => Ext s s' ∧ ∃ n t1 t2 vs us, v = .ref (n + 4) ∧ (∀ b o, s.heap.get? b = some o → b < n) ∧ ¬ μ t1 ∧ ¬ μ t2 ∧ ZS n t1 t2 vs us .none 0 0 s'.heap ∧
      RpL c.w μ s'.heap vs.toList xs ∧ RpL c.w μ s'.heap us.toList ys) NoE s := by
  refine Call_ (wpAny_mono (EvV_blt (x := "zip") (by decide) boot_zip hk (by decide) (by decide) μ s t) (fun v s1 q => ?_) fun _ _ x => x)
  obtain ⟨q1, rfl⟩ := q
  refine callWith_type1 (args_cons (wpAny_mono (h1 μ s1 (t.ext q1)) (fun v s2 q2 => args_cons (wpAny_mono (h2 μ s2 ((t.ext q1).ext q2.1)) (fun u s3 q3 => args_nil ?_) fun _ _ x => x) he') fun _ _ x => x) he) he (by
      show (backTo zpos (starEach [e2] c.env)).any (·.1) = false
      rw [he']; rfl)
  have t3 := ((t.ext q1).ext q2.1).ext q3.1
  have r1 := Rp.ext t.mu72 q3.1 q2.2
  obtain ⟨x3, r2⟩ := q3
  cases r1 using Rp.elimTup with
  | @tup t1 vs n1 ha1 e1 rr1 =>
    cases r2 using Rp.elimTup with
    | @tup t2 us n2 ha2 e2 rr2 =>
      refine call_zipT ⟨_, e1, rfl, n1, rfl⟩ ⟨_, e2, rfl, n2, rfl⟩ fun h' zs hz hk => ?_
      have x4 : Ext s3 { s3 with heap := h' } := Ext.of_keep (tk := s3.toks) hk
      have x13 := (q1.trans q2.1).trans x3
      have hsz := old_lt t x13
      exact ⟨x13.trans x4, _, t1, t2, vs, us, rfl, hsz, ha1, ha2, zs, RpL.ext t.mu72 x4 rr1, RpL.ext t.mu72 x4 rr2⟩

theorem TI_lt {h : Heap} {a l : Addr} {i : Nat} (x : h.IsTupleIter a l i) : a < h.objs.size := let ⟨_, e, _⟩ := x; Heap.lt_size e
theorem TU_lt {h : Heap} {a : Addr} {xs : Array Value} (x : h.IsTuple a xs) : a < h.objs.size := let ⟨_, e, _⟩ := x; Heap.lt_size e
theorem passing_all (n : Nat) : passing (fun _ => true) n 0 = List.range n := by simp [passing]

theorem Ev_tupzip {np zp zpos gpos pos p1 p2 p3 pa pb pt : Pos} {kt : Nat} {xa xb : Str} {e1 e2 : Expr} {scope : Scope} {xs ys : List Int} (h1 : Ev c ρ e1 (.tup (xs.map .int))) (h2 : Ev c ρ e2 (.tup (ys.map .int))) (hl : ys.length = xs.length) (hz : xs.length ≤ 1000)
    (hc : c.env.code = .ref 76) (hk : c.env.kindOf "zip" = some .globalImplicit) (hk' : c.env.kindOf "tuple" = some .globalImplicit) (hco : scope.isCoroutine = false) (hf : freeOk c.env scope.names = true) (hcell : ∀ y ∈ scope.names, y.2 ≠ .cell)
    (h0 : scope.names.lookup (".0" : Str) = some NameKind.local) (hxa : scope.names.lookup xa = some .local) (hxb : scope.names.lookup xb = some .local) (hab : xa ≠ xb) (hkind : scope.kind = .function)
    (hda : (xa == ("__debug__" : Str)) = false) (hdb : (xb == ("__debug__" : Str)) = false)
    (he1 : starEach [e1, e2] c.env = (false, eval e1 c.env) :: starEach [e2] c.env := by rfl) (he2 : starEach [e2] c.env = [(false, eval e2 c.env)] := by rfl)
    (hs : ∀ x, genFold (.Call (.Name "zip" zp) [e1, e2] [] zpos) c.env x = pure x := by intro _; rfl) :
    Ev c ρ (.Call (.Name "tuple" np) [.GeneratorExp (.BinOp (.Name xa p1) .Add (.Name xb p2) p3) [⟨.Tuple [.Name xa pa, .Name xb pb] kt pt, .Call (.Name "zip" zp) [e1, e2] [] zpos, [], 0⟩] scope gpos] [] pos)
      (.tup ((List.zipWith (· + ·) xs ys).map .int)) := fun μ s t => by
  have hh := t.room.1
  have hzl : (List.zipWith (· + ·) xs ys).length = xs.length := by simp [hl]
  refine Call_ (wpAny_mono (EvV_blt (x := "tuple") (by decide) boot_tuple hk' (by decide) (by decide) μ s t) (fun v s0 q => ?_) fun _ _ x => x)
  obtain ⟨q0, rfl⟩ := q
  have t0 := t.ext q0
  refine callWith_type1 (args_cons (wpAny_GeneratorExp_walksQT (cl := clOf c.env scope.names []) hh hco (closureFor_is hf) hcell h0 hxa hxb hab hkind (by have := t.room.2.1; show _ < 1000; (first | lia | omega))
    (wpAny_mono (wp_zip t0 h1 h2 hk he1 he2) (fun xv s1 q1 => ?_) fun _ _ x => x) hs) rfl) rfl
  obtain ⟨x1, n, t1, t2, vs, us, rfl, hn, ht1, ht2, zs, r1, r2⟩ := q1
  have T1 := t0.ext x1
  have hvl : vs.size = xs.length := by rw [← Array.length_toList, r1.length]; simp
  have hul : us.size = vs.size := by rw [← Array.length_toList, r2.length, hvl]; simp [hl]
  refine (walksZ hh n t1 t2 vs us hul).self 0 s1 _ _ zs ⟨T1.g.lim, wpAny_mono (wp_gcode T1 hc) (fun code s3 q3 => ?_) fun _ _ x => x⟩
  obtain ⟨x3, hgens⟩ := q3
  have T3 := T1.ext x3
  have hn185 : 185 ≤ (n : Nat) := hn 184 _ (t0.g.fns (184, fdLaw) (by exact mem_lkA rfl)).1
  have n72 : ∀ k : Nat, n + k ≠ 72 := fun k => Nat.ne_of_gt (Nat.lt_of_lt_of_le (by decide : 72 < 185) (Nat.le_trans hn185 (Nat.le_add_right _ _)))
  have nl72 : ∀ b ∈ [n + 4, n + 2, n + 3, n, n + 1, t1, t2], b ≠ 72 := fa_cons (n72 4) (fa_cons (n72 2) (fa_cons (n72 3) (fa_cons (n72 0) (fa_cons (n72 1) (fa_cons (fun e => ht1 (e ▸ t.mu72)) (fa_cons (fun e => ht2 (e ▸ t.mu72)) fa_nil))))))
  have zs3 : ZS n t1 t2 vs us .none 0 0 s3.heap := zs.frame fun b hb o e => x3.keep b o e (nl72 b hb)
  obtain ⟨mg, hmg, hgt, _⟩ := T3.g.glob
  obtain ⟨ob, hob, hoc, hod, hodt⟩ := T3.g.bmod
  have hgl : c.env.globals = 3 := t.frame.glob
  refine wpAny_builtinsFor (hgl ▸ hmg) (hgt ("__builtins__", .ref 4) (by exact mem_lk (by kernel_rfl))) (by decide) hob hoc hod hodt ?_
  have hint : ∀ (i : Nat) (va vb : Value), (∃ x y, vs[i]? = some x ∧ us[i]? = some y ∧ (#[va, vb] : Array Value) = #[x, y]) → ∃ a b ta tb, va = .int a ta ∧ vb = .int b tb ∧ (List.zipWith (· + ·) xs ys)[i]? = some (a + b) := by
    rintro i va vb ⟨x, y, hx, hy, e⟩
    obtain ⟨rfl, rfl⟩ : va = x ∧ vb = y := by simpa using congrArg Array.toList e
    obtain ⟨d1, e1, q1⟩ := r1.getV (i := i) (v := va) (by simpa using hx)
    obtain ⟨d2, e2, q2⟩ := r2.getV (i := i) (v := vb) (by simpa using hy)
    rw [List.getElem?_map] at e1 e2
    cases hxi : xs[i]? with
    | none => rw [hxi] at e1; cases e1
    | some a =>
      cases hyi : ys[i]? with
      | none => rw [hyi] at e2; cases e2
      | some b =>
        rw [hxi] at e1; rw [hyi] at e2
        cases e1; cases e2; cases q1; cases q2
        exact ⟨a, b, _, _, rfl, rfl, by simp [List.getElem?_zipWith, hxi, hyi]⟩
  refine ⟨n + 4, _, _, vs.size, _, _, _, (fun _ => true), (fun i y => ∃ k tk, (List.zipWith (· + ·) xs ys)[i]? = some k ∧ y = .int k tk), rfl, (fun A' hA => walksZ hA n t1 t2 vs us hul), (fun i vals hv => by obtain ⟨x, y, _, _, e⟩ := hv; exact ⟨x, y, e⟩), zs3, ?_, T3.g.lim, ?_, ?_, ?_⟩
  · obtain ⟨_, _, eo⟩ := zs3.outs
    exact fa_cons (Heap.lt_size zs3.z) (fa_cons (Heap.lt_size zs3.ins) (fa_cons (Heap.lt_size eo) (fa_cons (TI_lt zs3.i1) (fa_cons (TI_lt zs3.i2) (fa_cons (TU_lt zs3.l1) (fa_cons (TU_lt zs3.l2) fa_nil))))))
  · have hlt : ∀ k : Nat, cStatics ≠ n + k := fun k => Nat.ne_of_lt (Nat.lt_of_lt_of_le (by decide : (cStatics : Nat) < 185) (Nat.le_trans hn185 (Nat.le_add_right _ _)))
    exact fun hb => fa_cons (P := fun b => b ≠ cStatics) (hlt 4).symm (fa_cons (hlt 3).symm (fa_cons (hlt 0).symm (fa_cons (hlt 1).symm fa_nil))) _ hb rfl
  · intro href _
    refine ⟨fun A' E' i va vb s2 m2 _ _ _ _ _ _ => ?_, fun A' E' i va vb s2 m2 _ hP _ hns hma hmb _ => ?_⟩
    · rw [List.forIn_nil]; exact wpAny_pure ⟨rfl, s2.heap, s2.toks, rfl, fun _ _ e => e⟩
    · obtain ⟨a, b, ta, tb, rfl, rfl, hk⟩ := hint i va vb hP
      refine wpAny_BinOp (wpAny_Name (wpAny_loadName_local hkind hxa hns hma (wpAny_Name (wpAny_loadName_local hkind hxb hns hmb (PyProof.Rows.add_int ?_)) hdb)) hda)
      exact ⟨⟨_, _, hk, rfl⟩, s2.heap, _, rfl, fun _ _ e => e⟩
  · intro a h5 tk gs hb hlt hsz5 hk5 W hat
    refine args_nil (call_tuple_gen (hsz := ?_) W.in4_3 (fun i s' st => st.1.typeIs) hat ?_ List.mem_cons_self fun s' acc hm hacc => ?_)
    · intro b hb
      show b < h5.objs.size
      rw [hsz5]
      rcases List.mem_cons.mp hb with rfl | hb
      · exact Nat.lt_succ_self _
      · rcases List.mem_cons.mp hb with rfl | hb
        · exact Nat.lt_succ_of_lt hlt
        · exact Nat.lt_succ_of_lt (Nat.lt_trans (List.mem_range.mp hb) hlt)
    · have hm1 := hm.heap
      have n2 : ∀ b : Addr, b < n → b ∉ (s3.heap.objs.size :: [n + 4, n + 3, n, n + 1]) := fun b hb z => by
        have hge : ∀ k : Nat, n + k ≠ b := fun k => Nat.ne_of_gt (Nat.lt_of_lt_of_le hb (Nat.le_add_right _ _))
        exact fa_cons (P := fun a => a ≠ b) (Nat.ne_of_gt (Nat.lt_trans hb (TI_lt zs3.i1))) (fa_cons (hge 4) (fa_cons (hge 3) (fa_cons (hge 0) (fa_cons (hge 1) fa_nil)))) _ z rfl
      have keep5 : ∀ b o, b < n → s3.heap.get? b = some o → s'.heap.get? b = some o := fun b o hb e => hm1 b o (n2 b hb) (hk5 b o e)
      have x03 : Ext s s3 := (q0.trans x1).trans x3
      have hold : ∀ b o, s.heap.get? b = some o → b < n := fun b o e => by
        by_cases h : b = 72
        · obtain ⟨o', e'⟩ := t0.live 72 t0.mu72
          exact h ▸ hn 72 o' e'
        · exact hn b o (q0.keep b o e h)
      have xf : Ext s { s' with heap := s'.heap.push { cls := .type "tuple", data := .seq acc } } := by
        refine ⟨fun b o e n' => Heap.get?_push_of_some _ (keep5 b o (hold b o e) (x03.keep b o e n')), hm.os.trans x03.os, fun z => ?_, fun z => ?_⟩
        · have h3 : AllBare s3.gens := x03.bare z
          exact (AllBare.movedS (s' := s') (h3.push hb) hm :)
        · obtain ⟨ps, p, q⟩ := x03.tab z
          have l76 : 76 < n := Nat.lt_of_lt_of_le (by decide) hn185
          have l72 : 72 < n := Nat.lt_of_lt_of_le (by decide) hn185
          obtain ⟨o, vs', file, tf, flags, tg, inF, text, tt, op, a1, r1, r2, r3, r4, r5, r6, a2, r⟩ := p
          obtain ⟨⟨o', vs'', b1, b2⟩, b3⟩ := q
          exact ⟨ps, ⟨o, vs', file, tf, flags, tg, inF, text, tt, op, Heap.get?_push_of_some _ (keep5 _ _ l76 a1), r1, r2, r3, r4, r5, r6, Heap.get?_push_of_some _ (keep5 _ _ l72 a2), r⟩,
            ⟨o', vs'', Heap.get?_push_of_some _ (keep5 _ _ l76 b1), b2⟩, Heap.get?_push_of_some _ (keep5 _ _ l72 b3)⟩
      refine ⟨xf, .tup (fun z => ?_) (Heap.get?_push_size _ rfl) ?_⟩
      · obtain ⟨o, e⟩ := t.live _ z
        obtain ⟨o3, e3⟩ := T3.live _ z
        exact Nat.lt_irrefl _ (Heap.lt_size (keep5 _ _ (hold _ _ e) e3))
      · refine RpL_of_get _ _ (by rw [Array.length_toList, hacc.1, passing_all, List.length_range, hvl, List.length_map, hzl]) fun j v hv => ?_
        obtain ⟨i, hi, k, tk', hk, rfl⟩ := hacc.2 j v (by simpa using hv)
        rw [passing_all] at hi
        have : i = j := by
          have := List.getElem?_eq_some_iff.mp hi
          obtain ⟨_, h⟩ := this
          simpa using h.symm
        subst this
        exact ⟨.int k, by rw [List.getElem?_map, hk]; rfl, .int _ _⟩
    · rw [passing_all, List.length_range, hvl, sizeLine_eq]; (first | lia | omega)
end
end Mine
end

noncomputable section -- MQ
open PySem PyProof.Rows
set_option maxRecDepth 100000
namespace Mine
section
variable {c : Cx} {ρ : Loc} {μ : Addr → Prop} {s s' : Shared} {Q : Out → Prop}

theorem Tst_val {e : Expr} {b : Bool} (h : Ev c ρ e (.bool b)) (he : isTrue e c.env (eval e c.env) = (do let v ← eval e c.env; standAt e.pos; holding [v] (truthy v)) := by rfl) : Tst c ρ e b := fun μ s t =>
  wpAny_isTrue_value (wpAny_mono (h μ s t) (fun v s1 q => by obtain ⟨q1, q2⟩ := q; cases q2 using Rp.elimBool; exact wpAny_truthy_bool ⟨q1, rfl⟩) fun _ _ x => x) he

noncomputable def isTup : D → Bool
  | .tup _ => true
  | _ => false
theorem Ev_isTup {np tp pos : Pos} {e : Expr} {d : D} (h : Ev c ρ e d) (hd : isTup d = true ∨ ∃ i, d = .int i) (hk : c.env.kindOf "isinstance" = some .globalImplicit) (hk' : c.env.kindOf "tuple" = some .globalImplicit)
    (he : starEach [e, .Name "tuple" tp] c.env = (false, eval e c.env) :: starEach [.Name "tuple" tp] c.env := by rfl) :
    Ev c ρ (.Call (.Name "isinstance" np) [e, .Name "tuple" tp] [] pos) (.bool (isTup d)) :=
  EvV_b2 (P2 := fun _ _ u => u = .type "tuple") h (EvV_blt (by decide) boot_tuple hk') (.isD _) (fun μ s v1 v2 t r1 r2 => by
    subst r2
    rcases hd with hd | ⟨i, rfl⟩
    · cases d <;> first | cases hd | skip
      cases r1 using Rp.elimTup with
      | tup _ e _ => exact IsiPair.tuple_tuple e rfl ⟨.refl _, .bool _⟩
    · cases r1 using Rp.elimInt; exact IsiPair.int_tuple ⟨Ext.toks s _, .bool _⟩) (by decide) boot_isinstance hk (by decide) (by decide) he rfl

theorem W_augD {x : Str} {p q pos : Pos} {ie e : Expr} {a : Addr} {l : List (Str × D)} {k : Str} {i j : Int} {rest : List Stmt} (hx : ρ x = some (OD c.w a l)) (hk : Ev c ρ ie (.str k)) (hi : lookD l k = some (.int i)) (h : Ev c ρ e (.int j)) (hz : l.length ≤ 1000)
    (hq : W c (upd ρ x (OD c.w a (putD l k (.int (i + j))))) rest Q)
    (hst : ∀ ov iv new, augStore ie ov iv new = (do holding [new, ov, iv] (setItem ov iv new); release [new, ov, iv] []; pure .next) := by intros; rfl) : W c ρ (.AugAssign (.Subscript (.Name x p) ie q) .Add e pos :: rest) Q := W_cons fun μ s t => by
  refine wpAny_AugAssign_SubscriptAny (wpAny_mono (EvV_name hx μ s t) (fun o s1 q1 => ?_) fun _ _ x => x) hst
  have t1 := t.ext q1.1
  refine wpAny_mono (hk μ s1 t1) (fun iv s2 q2 => ?_) fun _ _ x => x
  have t2 := t1.ext q2.1
  have ho := SP.lv (c := c) hx μ s1 s2 o t1 q2.1 q1.2
  have ho' := ho
  obtain ⟨rfl, kvs, hd, hr⟩ := ho
  obtain ⟨q2a, q2b⟩ := q2
  cases q2b using Rp.elimStr with
  | str tk =>
    obtain ⟨u, h1, h2⟩ := hr.look hi
    refine wpAny_getItem_of (knd := strKind PG c.w) (k := k) (isStr_key c.w k tk) hd.mapOf h1 ?_
    have x3 := Ext.toks s2 (s2.toks + 1)
    have t3 := t2.ext x3
    refine wpAny_mono (h μ _ t3) (fun v s4 q4 => ?_) fun _ _ x => x
    obtain ⟨x4, r4⟩ := q4
    have t4 := t3.ext x4
    cases r4 using Rp.elimInt; cases h2 using Rp.elimInt
    refine PyProof.Rows.iadd_int ?_
    have x5 := Ext.toks s4 (s4.toks + 1)
    have t5 := t4.ext x5
    have ho5 := SP.lv (c := c) hx μ s2 _ _ t2 ((x3.trans x4).trans x5) ho'
    obtain ⟨_, kvs', hd', hr'⟩ := ho5
    refine wpAny_setItem_pairs (isStr_key c.w k tk) hd' (fun h' hd' hs' => ?_) (by rw [hr'.length, sizeLine_eq]; (first | lia | omega))
    have hR : ∀ u, odR c.w a l μ s4.heap u → odR c.w a (putD l k (.int (i + j))) μ h' u := fun u hu => by
      refine ⟨hu.1, _, hd', ?_⟩
      have r1 := hr'.put k (.int (i + j) s4.toks)
      exact RpK.keep (fun _ n => n) (fun b o n e => hs'.extBut b o (fun z => n (z ▸ ((t.frame.own x _ hx).2.2 a (by simp [OD, LV.adr])).1)) e) r1
    obtain ⟨t6, mv6⟩ := t5.setOwn (tk := s4.toks + 1 + 1) (R' := odR c.w a (putD l k (.int (i + j)))) hx (by simp) (fun b o n e => hs'.extBut b o n e) (let ⟨o, _, _, ho, _⟩ := hd'; ⟨o, ho⟩) odR_stable hR
    exact ⟨Out.next _, μ, hq, ⟨rfl, t6⟩, (t.mv ((((q1.1.trans q2a).trans x3).trans x4).trans x5)).trans mv6⟩
end

noncomputable def addD : D → D → D
  | .int i, .int j => .int (i + j)
  | .tup [.int a, .int b], .tup [.int a', .int b'] => .tup [.int (a' + a), .int (b' + b)]
  | d, _ => d
noncomputable def stepAC (acc : List (Str × D)) (p : Str × D) : List (Str × D) := match lookD acc p.1 with
  | some e => putD acc p.1 (addD e p.2)
  | none => putD acc p.1 p.2
noncomputable def putP (acc : List (Str × D)) (p : Str × D) : List (Str × D) := putD acc p.1 p.2
noncomputable def copyD (l : List (Str × D)) : List (Str × D) := l.foldl putP []
noncomputable def mergeD (t s : List (Str × D)) : List (Str × D) := s.foldl stepAC (copyD t)

noncomputable def intVal (d : D) : Prop := ∃ i, d = .int i
noncomputable def pairVal (d : D) : Prop := ∃ a b, d = .tup [.int a, .int b]
noncomputable def specAC : List D → D → Prop := fun ds d => ∃ t s, ds = [.dct t, .dct s] ∧ d = .dct (mergeD t s) ∧ t.length ≤ 100 ∧ s.length ≤ 100 ∧
  (((∀ p ∈ t, intVal p.2) ∧ ∀ p ∈ s, intVal p.2) ∨ ((∀ p ∈ t, pairVal p.2) ∧ ∀ p ∈ s, pairVal p.2))

theorem putD_len (l : List (Str × D)) (k : Str) (d : D) : (putD l k d).length ≤ l.length + 1 := by unfold putD; split <;> simp
theorem putD_all {P : D → Prop} {l : List (Str × D)} {k : Str} {d : D} (h : ∀ p ∈ l, P p.2) (hd : P d) : ∀ p ∈ putD l k d, P p.2 := by
  unfold putD
  split
  · intro p hp
    obtain ⟨q, hq, rfl⟩ := List.mem_map.mp hp
    by_cases hk : q.1 = k
    · simpa [hk] using hd
    · simpa [hk] using h q hq
  · intro p hp
    rcases List.mem_append.mp hp with hp | hp
    · exact h p hp
    · rw [List.mem_singleton.mp hp]; exact hd
theorem lookD_all {P : D → Prop} {l : List (Str × D)} {k : Str} {d : D} (h : ∀ p ∈ l, P p.2) (hd : lookD l k = some d) : P d := by
  unfold lookD at hd
  cases e : l.find? (fun kv => kv.1 = k) with
  | none => rw [e] at hd; cases hd
  | some p => rw [e] at hd; cases hd; exact h p (List.mem_of_find?_eq_some e)

theorem stepAC_some {l : List (Str × D)} {k : Str} {d e : D} (h : lookD l k = some e) : stepAC l (k, d) = putD l k (addD e d) := by unfold stepAC; rw [show lookD l (k, d).1 = some e from h]
theorem stepAC_none {l : List (Str × D)} {k : Str} {d : D} (h : lookD l k = none) : stepAC l (k, d) = putD l k d := by unfold stepAC; rw [show lookD l (k, d).1 = none from h]
theorem stepAC_len (l : List (Str × D)) (p : Str × D) : (stepAC l p).length ≤ l.length + 1 := by unfold stepAC; split <;> exact putD_len _ _ _
theorem copyD_all {P : D → Prop} {l acc : List (Str × D)} (ha : ∀ p ∈ acc, P p.2) (h : ∀ p ∈ l, P p.2) : ∀ p ∈ l.foldl putP acc, P p.2 := by
  induction l generalizing acc with
  | nil => exact ha
  | cons x l ih => exact ih (putD_all ha (h x List.mem_cons_self)) fun p hp => h p (List.mem_cons_of_mem _ hp)

end Mine
end

noncomputable section -- MR
open PySem PyProof.Rows
set_option maxRecDepth 100000
namespace Mine
theorem foldP_len : ∀ (l : List (Str × D)), (l.foldl putP []).length ≤ l.length := by
  have : ∀ (l acc : List (Str × D)), (l.foldl putP acc).length ≤ acc.length + l.length := by
    intro l
    induction l with
    | nil => intro acc; simp
    | cons x l ih =>
      intro acc
      have e1 : (putP acc x).length ≤ acc.length + 1 := putD_len _ _ _
      have := ih (putP acc x)
      rw [List.foldl_cons, List.length_cons]; (first | lia | omega)
  intro l; simpa using this l []
section
variable {c : Cx} {ρ : Loc} {μ : Addr → Prop} {s s' : Shared}

theorem dictcomp_core {RR : Value → Addr → Result → Shared → Prop} {kx vx iter : Expr} {x : Str} {px pos : Pos} {scope : Scope} {ds : List D} (f : D → Str × D) {s₁ s₂ : Shared} (t1 : StM c μ ρ s₁) {I : Addr} {fp : List Addr} {P : Nat → Value → Prop} {Sx : Nat → Heap → Prop}
    (hE : Ext s₁ s₂) (Wk : Walks PG c.w c.A I fp [I] ds.length P Sx) (hS : Sx 0 s₂.heap) (hI1 : s₁.heap.objs.size ≤ I) (hIl : ∀ i h, Sx i h → ∃ o, h.get? I = some o) (hfp : ∀ b ∈ fp, b = I ∨ (¬ μ b ∧ ∃ o, s₁.heap.get? b = some o))
    (hitem : ∀ i v d, P i v → ds[i]? = some d → Rp c.w μ s₁.heap v d)
    (hb : ∀ (C : Addr) (s : Shared) (μ : Addr → Prop) (i : Nat) (d : D), ds[i]? = some d → Ev (compCx c scope C s μ) (compLoc c ρ scope x d) kx (.str (f d).1) ∧ Ev (compCx c scope C s μ) (compLoc c ρ scope x d) vx (f d).2)
    (hlen : ds.length ≤ sizeLine) (hk : scope.kind = .function) (hf : freeOk c.env scope.names = true) (hnd : (scope.names.map (·.1)).Nodup) (hx : scope.names.lookup x = some .local) (hok : okName x = true)
    (hcell : ∀ y ∈ scope.names, y.2 ≠ .cell)
    (hRR : ∀ D C s' m, Ext s₁ s' → s₁.heap.objs.size ≤ D → s₁.heap.objs.size ≤ C → D ≠ C → s'.heap.Ns C m → Rp c.w (fun b => μ b ∨ b = C) s'.heap (.ref D) (.dct ((ds.map f).foldl putP [])) → RR (.ref D) C (.ok .next) s') :
    wpAny (model PG c.w) c.A newDict (fun acc s₃ => wpAny (model PG c.w) c.A (newFunctionEnv scope c.env.globals (clOf c.env scope.names []) [] c.env.qual none .none (some c.env)) (fun cenv s₄ =>
      codeAny (model PG c.w) c.A (.compStart (.DictComp kx vx [⟨.Name x px, iter, [], 0⟩] scope pos) 0 (.ref I) acc { cenv with scope := relabel scope c.env }) (RR acc cenv.locals) s₄) NoE s₃) NoE s₂ := by
  have t := t1
  refine wpAny_newObj_type (wpAny_newFunctionEnv hcell (by intro y hy; simp at hy) (fun h₃ hns₃ hsb₃ => ?_) hk)
  dsimp only at hns₃ hsb₃ ⊢
  generalize hH2 : s₂.heap.push { cls := .type "dict", dict := none, data := .dict #[] } = H2 at hns₃ hsb₃ ⊢
  have hC : H2.objs.size = s₂.heap.objs.size + 1 := by rw [← hH2, Heap.size_push]
  generalize hDe : s₂.heap.objs.size = Dd at hC ⊢
  generalize hCe : H2.objs.size = C at hC hns₃ hsb₃ ⊢
  have hsz : 185 ≤ s₁.heap.objs.size := t1.g.size
  have hI2 : I < Dd := by obtain ⟨o, e⟩ := hIl 0 _ hS; rw [← hDe]; exact Heap.lt_size e
  have hDC : Dd ≠ C := by (first | lia | omega)
  have hID : I ≠ Dd := Nat.ne_of_lt hI2
  have hIC : I ≠ C := by rw [hC]; exact Nat.ne_of_lt (Nat.lt_succ_of_lt hI2)
  have hD1 : s₁.heap.objs.size ≤ Dd := Nat.le_trans hI1 (Nat.le_of_lt hI2)
  have hC1 : s₁.heap.objs.size ≤ C := by (first | lia | omega)
  have old : ∀ b o, s₂.heap.get? b = some o → h₃.get? b = some o := fun b o e => hsb₃.extBut b o (by rw [hC, ← hDe]; exact Nat.ne_of_lt (Nat.lt_succ_of_lt (Heap.lt_size e))) (Heap.get?_push_of_some _ (hH2 ▸ Heap.get?_push_of_some _ e))
  have hacc : h₃.DictOf (strKind PG c.w) Dd [] := ⟨_, #[], 0, hsb₃.extBut _ _ hDC (Heap.get?_push_of_some _ (hH2 ▸ hDe ▸ Heap.get?_push_size _ rfl)), ⟨rfl, rfl, rfl⟩, rfl, fun _ he => by simp at he, .nil, List.nodup_nil⟩
  have hS3 : Sx 0 h₃ := Wk.frame _ _ _ hS fun b _ o e => old b o e
  have hE3 : ∀ tk, Ext s₁ { s₂ with heap := h₃, toks := tk } := fun tk => hE.trans (Ext.of_keep old)
  have hCf : C ∉ fp := fun z => by
    rcases hfp C z with e | ⟨_, o, ho⟩
    · exact hIC e.symm
    · exact absurd (Heap.lt_size ho) (Nat.not_lt.mpr hC1)
  have hDf : Dd ∉ fp := fun z => by
    rcases hfp Dd z with e | ⟨_, o, ho⟩
    · exact hID e.symm
    · exact absurd (Heap.lt_size ho) (Nat.not_lt.mpr hD1)
  have hNge : ∀ a ∈ [I, Dd, C], s₁.heap.objs.size ≤ a := fun a ha => by
    rcases List.mem_cons.mp ha with rfl | ha
    · exact hI1
    · rcases List.mem_cons.mp ha with rfl | ha
      · exact hD1
      · rw [List.mem_singleton.mp ha]; exact hC1
  let cenv : Env := compEnvC scope (clOf c.env scope.names []) C c.env
  have hx' : cenv.kindOf x = some .local := lookup_relabel_local hx
  have hp' : (cenv.scope.kind == .class || (cenv.scope.kind == .module && cenv.locals != cenv.globals)) = false := by
    show (scope.kind == .class || (scope.kind == .module && _)) = false
    rw [hk]; rfl
  have loop : ∀ tk, codeAny (model PG c.w) c.A (.compLoop (.DictComp kx vx [⟨.Name x px, iter, [], 0⟩] scope pos) 0 (.ref I) (.ref Dd) cenv)
      (RR (.ref Dd) C) { s₂ with heap := h₃, toks := tk } := by
    intro tk
    refine codeAny_compLoop_testsD (fun n s' => ∃ i m ys, Ext s₁ s' ∧ Sx i s'.heap ∧ s'.heap.DictOf (strKind PG c.w) Dd ys ∧ s'.heap.Ns C m ∧ RpK c.w (fun b => μ b ∨ b ∈ [I, Dd, C]) s'.heap ys (((ds.take i).map f).foldl putP []) ∧ i ≤ ds.length ∧ n = ds.length + 1 - i) ?_ (ds.length + 1)
      ⟨0, _, [], hE3 tk, hS3, hacc, hns₃, by simpa using RpK.nil, Nat.zero_le _, rfl⟩
    rintro n s' ⟨i, m, ys, x', hSx, hac, hn, hr, hi, rfl⟩
    by_cases hlt : i < ds.length
    · have hd : ds[i]? = some ds[i] := by simp [hlt]
      refine Wk.item i s' _ _ hlt hSx fun v h' tk' hP hS' hk' => ?_
      have hk1 : ∀ b o, b ≠ I → s'.heap.get? b = some o → h'.get? b = some o := fun b o n e => hk' b o (fun z => n (List.mem_singleton.mp z)) e
      have x1 : Ext s₁ { s' with heap := h', toks := tk' } := x'.poke hI1 hsz hk1
      have hac1 : h'.DictOf (strKind PG c.w) Dd ys := hac.at fun o e => hk1 _ o hID.symm e
      have hn1 : h'.Ns C m := hn.at' fun o e => hk1 _ o hIC.symm e
      have hrv : Rp c.w (fun b => μ b ∨ b ∈ [I, Dd, C]) h' v ds[i] := by
        have r0 := hitem i v _ hP hd
        have r1 : Rp c.w (fun b => μ b ∨ b ∈ [I, Dd, C]) s₁.heap v ds[i] := Rp.grow (fun b o hb n z => z.elim n fun z => Nat.not_lt.mpr (hNge b z) (Heap.lt_size hb)) r0
        exact Rp.ext (c := c) (s' := { s' with heap := h', toks := tk' }) (.inl t.mu72) x1 r1
      have hr1 : RpK c.w (fun b => μ b ∨ b ∈ [I, Dd, C]) h' ys (((ds.take i).map f).foldl putP []) := RpK.keep (fun _ n => n) (fun b o n e => hk1 b o (fun z => n (.inr (z ▸ List.mem_cons_self))) e) hr
      refine wpAny_assign_Name (wpAny_storeName_local hx' hn1 (fun h2 hn2 hs2 => ?_) hp')
      replace hs2 : Heap.SameBut C h' h2 := hs2
      replace hn2 : h2.Ns C (fun y => if y = x then some v else m y) := hn2
      have hk2 : ∀ b o, b ≠ C → h'.get? b = some o → h2.get? b = some o := fun b o n e => hs2.extBut b o n e
      have x2 : Ext s₁ { s' with heap := h2, toks := tk' + 1 } := x1.poke (s' := { s' with heap := h', toks := tk' }) hC1 hsz hk2
      have hac2 : h2.DictOf (strKind PG c.w) Dd ys := hac1.at fun o e => hk2 _ o hDC e
      have hS2 : Sx (i + 1) h2 := Wk.frame _ _ _ hS' fun b hb o e => hk2 b o (fun z => hCf (z ▸ hb)) e
      have hrv2 : Rp c.w (fun b => μ b ∨ b ∈ [I, Dd, C]) h2 v ds[i] := Rp.keep (fun _ n => n) (fun b o n e => hk2 b o (fun z => n (.inr (by rw [z]; simp))) e) hrv
      have hr2 : RpK c.w (fun b => μ b ∨ b ∈ [I, Dd, C]) h2 ys (((ds.take i).map f).foldl putP []) := RpK.keep (fun _ n => n) (fun b o n e => hk2 b o (fun z => n (.inr (by rw [z]; simp))) e) hr1
      have hNl : ∀ (h : Heap), Sx (i + 1) h → h.DictOf (strKind PG c.w) Dd ys → (∃ m, h.Ns C m) → ∀ a ∈ [I, Dd, C], s₁.heap.objs.size ≤ a ∧ ∃ o, h.get? a = some o := fun h q1 q2 q3 a ha => ⟨hNge a ha, by
        rcases List.mem_cons.mp ha with rfl | ha
        · exact hIl _ _ q1
        · rcases List.mem_cons.mp ha with rfl | ha
          · obtain ⟨o, _, _, e, _⟩ := q2; exact ⟨o, e⟩
          · rw [List.mem_singleton.mp ha]; obtain ⟨m, o, _, _, e, _⟩ := q3; exact ⟨o, e⟩⟩
      have tin : StM (compCx c scope C s₁ μ) (fun b => μ b ∨ b ∈ [I, Dd, C]) (compLoc c ρ scope x ds[i]) { s' with heap := h2, toks := tk' + 1 } :=
        t1.inner x2 (by simp) (hNl h2 hS2 hac2 ⟨_, hn2⟩) hn2 (by simp) hrv2 hk hf hnd hx hok
      obtain ⟨hKx, hVx⟩ := hb C s₁ μ i _ hd
      refine wpAny_mono (TstL_nil (c := compCx c scope C s₁ μ) _ _ tin) (fun ok s3 q3 => ?_) fun _ _ z => z.elim
      obtain ⟨x3, rfl⟩ := q3
      have x13 := x2.trans x3
      have keep3 : ∀ b o, b ≠ 72 → h2.get? b = some o → s3.heap.get? b = some o := fun b o n e => x3.keep b o e n
      have n72 : ∀ a, s₁.heap.objs.size ≤ a → a ≠ 72 := fun a ha => by (first | lia | omega)
      have tin3 := tin.ext x3
      simp only [if_true]
      refine wpAny_mono (hKx _ _ tin3) (fun key s4 q4 => ?_) fun _ _ z => z.elim
      obtain ⟨x4, rk⟩ := q4
      have tin4 := tin3.ext x4
      refine wpAny_mono (hVx _ _ tin4) (fun y s5 q5 => ?_) fun _ _ z => z.elim
      obtain ⟨x5, ry⟩ := q5
      have x35 := (x3.trans x4).trans x5
      have keep5 : ∀ b o, b ≠ 72 → h2.get? b = some o → s5.heap.get? b = some o := fun b o n e => x35.keep b o e n
      have hac5 : s5.heap.DictOf (strKind PG c.w) Dd ys := hac2.at fun o e => keep5 _ o (n72 _ hD1) e
      have hr5 : RpK c.w (fun b => μ b ∨ b ∈ [I, Dd, C]) s5.heap ys (((ds.take i).map f).foldl putP []) := RpK.keep (fun _ n => n) (fun b o n e => keep5 b o (fun z => n (.inl (z ▸ t.mu72))) e) hr2
      have htake : (ds.take (i + 1)).map f = (ds.take i).map f ++ [f ds[i]] := by rw [List.take_add_one, hd, List.map_append]; rfl
      have hys : ys.length ≤ sizeLine := by
        have e1 : ys.length = _ := hr5.length
        have e2 : (((ds.take i).map f).foldl putP []).length ≤ ((ds.take i).map f).length := foldP_len _
        have e3 : ((ds.take i).map f).length ≤ ds.length := by rw [List.length_map, List.length_take]; (first | lia | omega)
        (first | lia | omega)
      cases rk using Rp.elimStr with
      | str tkk =>
        refine wpAny_dictSet_pairs (hsz := hys) (isStr_key c.w _ tkk) hac5 fun h6 hac6 hs6 => ?_
        have hk6 : ∀ b o, b ≠ Dd → s5.heap.get? b = some o → h6.get? b = some o := fun b o n e => hs6.extBut b o n e
        have x6 : Ext s₁ { s5 with heap := h6, toks := s5.toks + 1 } := (x2.trans x35).poke hD1 hsz hk6
        refine ⟨ds.length + 1 - (i + 1), by (first | lia | omega), i + 1, (fun y => if y = x then some v else m y), _, x6, ?_, hac6, ?_, ?_, hlt, rfl⟩
        · refine Wk.frame _ _ _ hS2 fun b hb o e => hk6 b o (fun z => hDf (z ▸ hb)) (keep5 b o (fun z => ?_) e)
          rcases hfp b hb with e' | ⟨nb, _⟩
          · exact n72 _ hI1 (e' ▸ z)
          · exact nb (z ▸ t.mu72)
        · exact hn2.at' fun o e => hk6 _ o hDC.symm (keep5 _ o (n72 _ hC1) e)
        · rw [htake, List.foldl_append]
          have r6 := hr5.put (f ds[i]).1 ry
          exact RpK.keep (fun _ n => n) (fun b o n e => hk6 b o (fun z => n (.inr (by rw [z]; simp))) e) r6
    · have hin : i = ds.length := by (first | lia | omega)
      subst hin
      refine Wk.done s' _ _ hSx fun h' tk' hk' => ?_
      have hk1 : ∀ b o, b ≠ I → s'.heap.get? b = some o → h'.get? b = some o := fun b o n e => hk' b o (fun z => n (List.mem_singleton.mp z)) e
      have x1 : Ext s₁ { s' with heap := h', toks := tk' } := x'.poke hI1 hsz hk1
      rw [List.take_length] at hr
      refine hRR Dd C _ m x1 hD1 hC1 hDC (hn.at' fun o e => hk1 _ o hIC.symm e) ?_
      refine .dct (fun z => z.elim (fun z => Nat.not_lt.mpr hD1 (t1.lt _ z)) hDC) (by rw [beq_eq_false_iff_ne]; exact Nat.ne_of_gt (Nat.lt_of_lt_of_le (by decide) (Nat.le_trans hsz hD1))) (hac.at fun o e => hk1 _ o hID.symm e) ?_
      exact RpK.keep (fun b n z => n (z.imp (fun z => z) fun z => by rw [z]; simp)) (fun b o n e => hk1 b o (fun z => n (.inr (z ▸ List.mem_cons_self))) e) hr
  exact codeAny_compStart_dict (loop _) (Wk.self 0 _ _ _ hS3 (loop _))

theorem Ev_dictcomp {kx vx iter : Expr} {x : Str} {px pos : Pos} {scope : Scope} {P1 : VP} {ds : List D} (f : D → Str × D) (h1 : EvV c ρ iter P1) (h2 : Itb c ρ P1 ds)
    (hb : ∀ (C : Addr) (s : Shared) (μ : Addr → Prop) (i : Nat) (d : D), ds[i]? = some d → Ev (compCx c scope C s μ) (compLoc c ρ scope x d) kx (.str (f d).1) ∧ Ev (compCx c scope C s μ) (compLoc c ρ scope x d) vx (f d).2)
    (hlen : ds.length ≤ sizeLine) (hk : scope.kind = .function) (hf : freeOk c.env scope.names = true) (hnd : (scope.names.map (·.1)).Nodup) (hx : scope.names.lookup x = some .local) (hok : okName x = true)
    (hcell : ∀ y ∈ scope.names, y.2 ≠ .cell) (hs : ∀ v, foldedSetIterable iter c.env v = pure v := by intro _; rfl) :
    Ev c ρ (.DictComp kx vx [⟨.Name x px, iter, [], 0⟩] scope pos) (.dct ((ds.map f).foldl putP [])) := fun μ s t => by
  rw [arm_eval_DictComp]
  refine wpAny_comprehension_free (use := none) rfl hs (closureFor_is hf) hk (fun y hy hl => lookup_mem hnd (p := (y.1, .local)) (by rw [← hl]; exact hy)) ?_
  refine wpAny_mono (h1 μ s t) (fun v s₁ q1 => ?_) fun _ _ x => x
  have t1 := t.ext q1.1
  refine wpAny_mono (h2 μ s₁ v t1 q1.2) (fun it s₂ q2 => ?_) fun _ _ x => x
  obtain ⟨hE, I, fp, P, Sx, rfl, Wk, hS, hI1, hIl, hfp, hitem⟩ := q2
  refine dictcomp_core (RR := fun acc C => compPost (model PG c.w) c.A NoE none _ acc C) f t1 hE Wk hS hI1 hIl hfp hitem hb hlen hk hf hnd hx hok hcell ?_
  intro D C s' m x1 hD1 hC1 hDC hn hr
  refine ⟨m, hn, fun h2 hs2 => ?_⟩
  have x2 : Ext s₁ { s' with heap := h2, toks := s'.toks } := x1.poke hC1 t1.g.size fun b o n e => hs2.extBut b o n e
  exact ⟨q1.1.trans x2, Rp.keep (fun b n z => n (.inl z)) (fun b o n e => hs2.extBut b o (fun z => n (.inr z)) e) hr⟩

theorem W_assign_dictcomp {Q : Out → Prop} {rest : List Stmt} {kx vx iter : Expr} {x y : Str} {px py pos spos : Pos} {scope : Scope} {P1 : VP} {ds : List D} (f : D → Str × D) (h1 : EvV c ρ iter P1) (h2 : Itb c ρ P1 ds)
    (hb : ∀ (C : Addr) (s : Shared) (μ : Addr → Prop) (i : Nat) (d : D), ds[i]? = some d → Ev (compCx c scope C s μ) (compLoc c ρ scope x d) kx (.str (f d).1) ∧ Ev (compCx c scope C s μ) (compLoc c ρ scope x d) vx (f d).2)
    (hlen : ds.length ≤ sizeLine) (hk : scope.kind = .function) (hf : freeOk c.env scope.names = true) (hnd : (scope.names.map (·.1)).Nodup) (hx : scope.names.lookup x = some .local) (hok : okName x = true)
    (hcell : ∀ y ∈ scope.names, y.2 ≠ .cell) (hy : Storable c y)
    (hsw : swapsWithSole [.Name y py] (.DictComp kx vx [⟨.Name x px, iter, [], 0⟩] scope pos) spos.line c.env = pure true)
    (hq : W c (upd ρ y (.fz (.dct ((ds.map f).foldl putP [])))) rest Q) (hs : ∀ v, foldedSetIterable iter c.env v = pure v := by intro _; rfl) :
    W c ρ (.Assign [.Name y py] (.DictComp kx vx [⟨.Name x px, iter, [], 0⟩] scope pos) spos :: rest) Q := W_cons fun μ s t => by
  rw [exec_Assign_arm]
  refine wpAny_bind (wpAny_standAt ?_)
  rw [hsw]
  refine wpAny_bind (wpAny_pure ?_)
  rw [if_pos rfl]
  refine wpAny_bind ?_
  show wpAny _ _ (do let _ ← comprehension (.DictComp kx vx [⟨.Name x px, iter, [], 0⟩] scope pos) scope c.env (firstIterPos [⟨.Name x px, iter, [], 0⟩] pos) newDict false (eval iter c.env) (some fun v => assignAll v [assign (.Name y py) c.env])) _ _ s
  refine wpAny_bind (wpAny_comprehension_free rfl hs (closureFor_is hf) hk (fun y hy hl => lookup_mem hnd (p := (y.1, .local)) (by rw [← hl]; exact hy)) ?_)
  refine wpAny_mono (h1 μ s t) (fun v s₁ q1 => ?_) fun _ _ x => x
  have t1 := t.ext q1.1
  refine wpAny_mono (h2 μ s₁ v t1 q1.2) (fun it s₂ q2 => ?_) fun _ _ x => x
  obtain ⟨hE, I, fp, P, Sx, rfl, Wk, hS, hI1, hIl, hfp, hitem⟩ := q2
  refine dictcomp_core (RR := fun acc C => compPost (model PG c.w) c.A NoE _ _ acc C) f t1 hE Wk hS hI1 hIl hfp hitem hb hlen hk hf hnd hx hok hcell ?_
  intro D C s' m x1 hD1 hC1 hDC hn hr
  have hCl : ∃ o, s'.heap.get? C = some o := let ⟨o, _, _, e, _⟩ := hn; ⟨o, e⟩
  have t2 := t1.grow x1 hC1 hCl
  have mv2 := Mv.grow (c := c) t1 x1 hC1
  show wpAny _ _ (assignAll (.ref D) [assign (.Name y py) c.env]) _ _ s'
  show wpAny _ _ (assign (.Name y py) c.env (.ref D)) _ _ s'
  have hCfp : C ∉ c.fp := fun z => by
    have : μ C := by
      rcases List.mem_cons.mp z with e | z
      · exact e ▸ t.frame.muL
      · obtain ⟨q, hq, e⟩ := List.mem_map.mp z; exact e ▸ t.frame.cellsM q hq
    exact Nat.not_lt.mpr hC1 (t1.lt C this)
  have hprC : ¬ c.pr C := fun z => Nat.not_lt.mpr hC1 (t1.lt C (t1.prM C z))
  have h0C : ¬ c.μ₀ C := fun z => Nat.not_lt.mpr hC1 (t1.lt C (t1.mu0 C z))
  refine wpAny_assign_Name (wp_store' t2 hy .fz hr fun s3 t3 mv3 hk3 => ?_)
  have hn3 : s3.heap.Ns C m := hn.at' fun o e => hk3 C o hCfp e
  refine ⟨m, hn3, fun h' hs' => wpAny_pure (wpAny_pure ?_)⟩
  have t4 : StM c (fun b => (μ b ∨ b = C) ∧ b ≠ C) (upd ρ y (.fz (.dct ((ds.map f).foldl putP [])))) { s3 with heap := h', toks := s3.toks } := t3.pokeDrop (.inr rfl) (fun b o n e => hs'.extBut b o n e) (Nat.le_trans t1.size hC1) (Nat.le_trans t1.g.size hC1) hCfp (fun z l e ha => by
    unfold upd at e
    split at e
    · cases e; cases ha
    · exact Nat.not_lt.mpr hC1 (t1.lt C ((t.frame.own z l e).2.2 C ha).1)) h0C hprC
  refine ⟨Out.next (upd ρ y (.fz (.dct ((ds.map f).foldl putP [])))), _, hq, ⟨rfl, t4⟩, (t.mv q1.1).trans (mv2.trans (mv3.trans ⟨fun b o n e => hs'.extBut b o (fun z => n.elim (fun n => n (.inr z)) fun n => hprC (z ▸ n)) e, fun _ _ _ n z => n z.1⟩))⟩
end
end Mine
end

noncomputable section -- MS
open PySem PyProof.Rows
set_option maxRecDepth 100000
namespace Mine

theorem lk_raw : typeLookup (.type "object") "raw" = pure none := by rw [typeLookup_type, builtinLookup_eq_fast]; kernel_rfl
theorem lk_n : typeLookup (.type "object") "n" = pure none := by rw [typeLookup_type, builtinLookup_eq_fast]; kernel_rfl
theorem lk_nt : typeLookup (.type "object") "nt" = pure none := by rw [typeLookup_type, builtinLookup_eq_fast]; kernel_rfl
theorem lk_norm : typeLookup (.type "object") "norm" = pure none := by rw [typeLookup_type, builtinLookup_eq_fast]; kernel_rfl
theorem lk_is_simple : typeLookup (.type "object") "is_simple" = pure none := by rw [typeLookup_type, builtinLookup_eq_fast]; kernel_rfl
theorem lk_lineno : typeLookup (.type "object") "lineno" = pure none := by rw [typeLookup_type, builtinLookup_eq_fast]; kernel_rfl
theorem lk_instream : typeLookup (.type "object") "instream" = pure none := by rw [typeLookup_type, builtinLookup_eq_fast]; kernel_rfl
theorem lk_whitespace : typeLookup (.type "object") "whitespace" = pure none := by rw [typeLookup_type, builtinLookup_eq_fast]; kernel_rfl
theorem lk_pushback : typeLookup (.type "object") "pushback" = pure none := by rw [typeLookup_type, builtinLookup_eq_fast]; kernel_rfl
theorem lk_longest : typeLookup (.type "object") "longest_run_of_spaces" = pure none := by rw [typeLookup_type, builtinLookup_eq_fast]; kernel_rfl
theorem lk_indent : typeLookup (.type "object") "indent_level" = pure none := by rw [typeLookup_type, builtinLookup_eq_fast]; kernel_rfl
theorem lk_less : typeLookup (.type "object") "less" = pure none := by rw [typeLookup_type, builtinLookup_eq_fast]; kernel_rfl
theorem lk_read_char : typeLookup (.type "object") "_read_char" = pure none := by rw [typeLookup_type, builtinLookup_eq_fast]; kernel_rfl
theorem lk_get_token : typeLookup (.type "object") "get_token" = pure none := by rw [typeLookup_type, builtinLookup_eq_fast]; kernel_rfl
theorem lk_push_token : typeLookup (.type "object") "push_token" = pure none := by rw [typeLookup_type, builtinLookup_eq_fast]; kernel_rfl

theorem Rp.handed {w : World} {μ : Addr → Prop} {h : Heap} {v : Value} {d : D} (r : Rp w μ h v d) : handedOut v = pure v := by cases r <;> rfl

theorem valueAt_map_ne {kvs : List (Str × Value)} {k y : Str} {v : Value} (hy : y ≠ k) : valueAt (kvs.map fun kv => if kv.1 = k then (kv.1, v) else kv) y = valueAt kvs y := by
  unfold valueAt
  induction kvs with
  | nil => rfl
  | cons x l ih =>
    simp only [List.map_cons, List.find?_cons]
    by_cases hx : x.1 = k
    · have e1 : decide (x.1 = y) = false := decide_eq_false fun e => hy (e.symm.trans hx)
      simp only [hx, if_true] at e1 ⊢
      simp only [e1]; exact ih
    · simp only [hx, if_false]
      by_cases hxy : x.1 = y
      · simp [hxy]
      · simp only [hxy, decide_false]; exact ih
theorem valueAt_map_eq {kvs : List (Str × Value)} {k : Str} {v : Value} (h : kvs.any (fun kv => decide (kv.1 = k)) = true) : valueAt (kvs.map fun kv => if kv.1 = k then (kv.1, v) else kv) k = some v := by
  unfold valueAt
  induction kvs with
  | nil => simp at h
  | cons x l ih =>
    simp only [List.map_cons, List.find?_cons]
    by_cases hx : x.1 = k
    · simp [hx]
    · simp only [hx, if_false, decide_false]
      refine ih ?_
      simpa [hx] using h
theorem valueAt_stored (kvs : List (Str × Value)) (k : Str) (v : Value) : (fun y => if y = k then some v else valueAt kvs y) = valueAt (stored kvs k v) := by
  funext y
  show (if y = k then some v else valueAt kvs y) = _
  unfold stored
  by_cases h : kvs.any (fun kv => decide (kv.1 = k)) = true
  · rw [if_pos h]
    by_cases hy : y = k
    · subst hy; rw [if_pos rfl, valueAt_map_eq h]
    · rw [if_neg hy, valueAt_map_ne hy]
  · rw [if_neg h]
    unfold valueAt
    rw [List.find?_append]
    by_cases hy : y = k
    · have : kvs.find? (fun kv => decide (kv.1 = y)) = none := by
        rw [List.find?_eq_none]; intro p hp e
        exact h (List.any_eq_true.mpr ⟨p, hp, by simpa [hy] using e⟩)
      rw [this]; simp [hy]
    · rw [if_neg hy]
      have : ([(k, v)] : List (Str × Value)).find? (fun kv => decide (kv.1 = y)) = none := by
        simp; exact fun e => hy e.symm
      rw [this, Option.or_none]

section
variable {c : Cx} {ρ : Loc} {μ : Addr → Prop} {s s' : Shared} {Q : Out → Prop}

theorem inst_of {h : Heap} {a d C : Addr} {o : Obj} {kvs : List (Str × Value)} (e : h.get? a = some o) (ho : o.cls = .ref C ∧ o.dict = some d ∧ ∀ k, o.data ≠ .cls k) (hne : d ≠ a) (n : h.Ns1 d (valueAt kvs)) : h.Inst a C (valueAt kvs) :=
  ⟨_, e, ho.1, ho.2.2, .inr ⟨d, ho.2.1, hne, n⟩⟩

theorem Ev_attr {o : Expr} {name : Str} {pos : Pos} {C N : Addr} {tab : List (Str × Option Value)} {l : List (Str × D)} {d : D} (h : Ev c ρ o (.inst C l)) (hc : (C, N, tab) ∈ clsTab) (hg : (Str.ofString "__getattribute__", none) ∈ tab) (hn : (name, none) ∈ tab)
    (hB : typeLookup (.type "object") name = pure none) (hd : lookD l name = some d)
    (he : eval (.Attribute o name pos) c.env = (do
      let o' ← eval o c.env
      standAt pos.atName
      let r ← holding [o'] (getAttr o' name true)
      letTemporaryGo o o' r
      pure r) := by with_unfolding_all rfl) : Ev c ρ (.Attribute o name pos) d := fun μ s t => by
  refine Attribute_any_ (wpAny_mono (h μ s t) (fun v s1 q => ?_) fun _ _ x => x) he
  obtain ⟨x1, r⟩ := q
  have t1 := t.ext x1
  cases r with
  | @inst _ a dd o kvs _ n1 n2 hne e ho ns rk =>
    obtain ⟨v', hv, rv⟩ := rk.look hd
    obtain ⟨mN, X, hX⟩ := t1.g.cls _ hc
    refine cls_elim X fun nm q bs sn sub col dd k0 k1 k2 k3 k5 hC => ?_
    obtain ⟨hp, g, dr, tk, os⟩ := s1
    exact load_attr hC X.ns (hX _ hg) (hX _ hn) hB (inst_of e ho hne ns) hv rv.handed ⟨x1.trans (Ext.toks ⟨hp, g, dr, tk, os⟩ (tk + 1)), rv⟩

noncomputable def oiR (w : World) (a d C : Addr) (l : List (Str × D)) : VP := fun μ h v => v = .ref a ∧ d ≠ a ∧ (∃ o, h.get? a = some o ∧ (o.cls = .ref C ∧ o.dict = some d ∧ ∀ k, o.data ≠ .cls k)) ∧ ∃ kvs, h.Ns1 d (valueAt kvs) ∧ RpK w μ h kvs l
noncomputable def OI (w : World) (a d C : Addr) (l : List (Str × D)) : LV := .own [a, d] (oiR w a d C l)
theorem oiR_stable {w : World} {a d C : Addr} {l : List (Str × D)} : Stable [a, d] (oiR w a d C l) := by
  rintro μ μ' h h' v hμ hk ⟨e, hne, ⟨o, ho, hoo⟩, kvs, hn, r⟩
  exact ⟨e, hne, ⟨o, hk _ _ (.inr (by simp)) ho, hoo⟩, kvs, hn.at fun o e => hk _ o (.inr (by simp)) e, r.move hμ fun b o n e => hk b o (.inl n) e⟩
theorem Ev_attrO {x name : Str} {np pos : Pos} {a dd C N : Addr} {tab : List (Str × Option Value)} {l : List (Str × D)} {d : D} (hx : ρ x = some (OI c.w a dd C l)) (hc : (C, N, tab) ∈ clsTab) (hg : (Str.ofString "__getattribute__", none) ∈ tab) (hn : (name, none) ∈ tab)
    (hB : typeLookup (.type "object") name = pure none) (hd : lookD l name = some d)
    (he : eval (.Attribute (.Name x np) name pos) c.env = (do
      let o' ← eval (.Name x np) c.env
      standAt pos.atName
      let r ← holding [o'] (getAttr o' name true)
      letTemporaryGo (.Name x np) o' r
      pure r) := by with_unfolding_all rfl) : Ev c ρ (.Attribute (.Name x np) name pos) d := fun μ s t => by
  refine Attribute_any_ (wpAny_mono (EvV_name hx μ s t) (fun v s1 q => ?_) fun _ _ x => x) he
  obtain ⟨x1, rfl, hne, ⟨o, e, ho⟩, kvs, ns, rk⟩ := q
  have t1 := t.ext x1
  obtain ⟨v', hv, rv⟩ := rk.look hd
  obtain ⟨mN, X, hX⟩ := t1.g.cls _ hc
  refine cls_elim X fun nm q bs sn sub col dd k0 k1 k2 k3 k5 hC => ?_
  obtain ⟨hp, g, dr, tk, os⟩ := s1
  exact load_attr hC X.ns (hX _ hg) (hX _ hn) hB (inst_of e ho hne ns) hv rv.handed ⟨x1.trans (Ext.toks ⟨hp, g, dr, tk, os⟩ (tk + 1)), rv⟩

theorem within_kvs (kvs : List (Str × Value)) : Within (valueAt kvs) (kvs.map (·.1)) := fun y hy => by
  unfold valueAt at hy
  cases e : kvs.find? (fun kv => decide (kv.1 = y)) with
  | none => rw [e] at hy; exact absurd rfl hy
  | some p => exact List.mem_map.mpr ⟨p, List.mem_of_find?_eq_some e, by simpa using List.find?_some e⟩

theorem W_setattr {x name : Str} {np tpos pos : Pos} {e : Expr} {a dd C N : Addr} {tab : List (Str × Option Value)} {l : List (Str × D)} {d : D} {rest : List Stmt} (hx : ρ x = some (OI c.w a dd C l)) (h : Ev c ρ e d)
    (hc : (C, N, tab) ∈ clsTab) (hsa : (Str.ofString "__setattr__", none) ∈ tab) (hn : (name, none) ∈ tab) (hB : typeLookup (.type "object") name = pure none) (hz : l.length ≤ 1000)
    (hq : W c (upd ρ x (OI c.w a dd C (putD l name d))) rest Q) (hs : swapsWith e (some (.Attribute (.Name x np) name tpos)) pos.line c.env = pure false := by rfl) : W c ρ (.Assign [.Attribute (.Name x np) name tpos] e pos :: rest) Q := W_cons fun μ s t => by
  refine plainObj_wpAny_Assign_Attribute (wpAny_mono (h μ s t) (fun v s1 q1 => ?_) fun _ _ x => x) hs
  have t1 := t.ext q1.1
  refine wpAny_mono (EvV_name hx μ s1 t1) (fun o s2 q2 => ?_) fun _ _ x => x
  have t2 := t1.ext q2.1
  have hv : Rp c.w μ s2.heap v d := Rp.ext t.mu72 q2.1 q1.2
  obtain ⟨x2, rfl, hne, ⟨o0, ho, hoo⟩, kvs, hns, hr⟩ := q2
  obtain ⟨mN, X, hX⟩ := t2.g.cls _ hc
  refine cls_elim X fun nm q bs sn sub col dd0 k0 k1 k2 k3 k5 hC => ?_
  have hown := (t.frame.own x _ hx).2.2
  have hab : Big a := (hown a (by simp [OI, LV.adr])).2.2.2.2
  have hdb : Big dd := (hown dd (by simp [OI, LV.adr])).2.2.2.2
  have hCl : C < 185 ∧ C ≠ 72 := by have := of_decide_eq_true (List.all_eq_true.mp cls_lt _ hc); exact ⟨this.1, this.2.1⟩
  have haC : a ≠ C := Nat.ne_of_gt (Nat.lt_of_lt_of_le hCl.1 hab)
  obtain ⟨hp, g, dr, tk, os⟩ := s2
  refine store_attr (B := "object") (sa := "object.__setattr__") (owner := "object") F.store_object hC X.ns (hX _ hsa) (hX _ hn) hB haC (inst_of ho hoo hne hns) (fun h' tk' I' hk hsame => ?_) (within_kvs kvs) (by rw [List.length_map, hr.length, sizeLine_eq]; (first | lia | omega))
  dsimp only at ho hns hr t2 x2
  obtain ⟨o1, e1, c1, c2, c3, c4⟩ := hsame _ ho
  have e1' : h'.get? a = some o0 := by
    rw [e1]
    have c5 := c4 dd hoo.2.1
    have c6 := hoo.2.1
    obtain ⟨oc, od, odt, osl⟩ := o1
    obtain ⟨oc', od', odt', osl'⟩ := o0
    simp only at c1 c2 c3 c5 c6
    subst c1; subst c2; subst c3; subst c5; subst c6
    rfl
  obtain ⟨o2, g1, g2, g3, g4⟩ := I'
  have hns' : h'.Ns1 dd (valueAt (stored kvs name v)) := by
    rw [e1'] at g1; cases g1
    rcases g4 with ⟨z, _⟩ | ⟨d2, z1, z2, z3⟩
    · rw [hoo.2.1] at z; cases z
    · rw [hoo.2.1] at z1; cases z1; rw [← valueAt_stored]; exact z3
  have hkk : ∀ b o, b ≠ dd → hp.get? b = some o → h'.get? b = some o := fun b o n e => by
    by_cases hb : b = a
    · subst hb; rw [ho] at e; cases e; exact e1'
    · exact hk b o hb (fun o₀ dx z1 z2 => by rw [ho] at z1; cases z1; rw [hoo.2.1] at z2; cases z2; exact n) e
  have hR : ∀ u, oiR c.w a dd C l μ hp u → oiR c.w a dd C (putD l name d) μ h' u := fun u hu => by
    refine ⟨hu.1, hne, ⟨o0, e1', hoo⟩, _, hns', ?_⟩
    have r1 := hr.put name hv
    exact RpK.keep (fun _ n => n) (fun b o n e => hkk b o (fun z => n (z ▸ (hown dd (by simp [OI, LV.adr])).1)) e) r1
  obtain ⟨t4, mv4⟩ := t2.setOwn (h' := h') (tk := tk') (a := dd) (R' := oiR c.w a dd C (putD l name d)) hx (by simp) hkk (let ⟨o, _, _, z, _⟩ := hns'; ⟨o, z⟩) oiR_stable hR
  exact ⟨Out.next _, μ, hq, ⟨rfl, t4⟩, (t.mv (q1.1.trans x2)).trans mv4⟩
end
end Mine
end

noncomputable section -- MT
open PySem PyProof.Rows
set_option maxRecDepth 100000
namespace Mine

structure ExtS (as : List Addr) (s s' : Shared) : Prop where
  keep : ∀ b o, s.heap.get? b = some o → b ≠ 72 → b ∉ as → s'.heap.get? b = some o
  os : s'.os = s.os
  bare : AllBare s.gens → AllBare s'.gens
  tab : Tab s'.heap
  live : ∀ a ∈ as, ∃ o, s'.heap.get? a = some o

noncomputable def RetR (P : Value → Shared → Prop) : Result → Shared → Prop := fun r s' => match r with | .ok (.ret v) => P v s' | .ok _ => False | .error _ => False

noncomputable def FnO (w : World) (f : Value) (n : Nat) (as : List Addr) (R R' : VP) (ds : List D) (d : D) : Prop :=
  ∀ (A : Around) (μ : Addr → Prop) (s : Shared) (v : Value) (vs : List Value), Room A n → G w s.heap → MuOk μ s.heap → as.Nodup → (∀ a ∈ as, μ a ∧ Big a) → R μ s.heap v → RpL w μ s.heap vs ds →
    codeAny (model PG w) A (.call f ⟨v :: vs, []⟩) (RetR fun r s' => ExtS as s s' ∧ R' μ s'.heap v ∧ Rp w μ s'.heap r d) s

theorem FnO.wp {w : World} {f : Value} {n : Nat} {as : List Addr} {R R' : VP} {ds : List D} {d : D} (h : FnO w f n as R R' ds d) {A : Around} {μ : Addr → Prop} {s : Shared} {v : Value} {vs : List Value} (h1 : Room A n) (h2 : G w s.heap) (h3 : MuOk μ s.heap) (h4 : as.Nodup)
    (h5 : ∀ a ∈ as, μ a ∧ Big a) (h6 : R μ s.heap v) (h7 : RpL w μ s.heap vs ds) : wpAny (model PG w) A (call f (v :: vs)) (fun r s' => ExtS as s s' ∧ R' μ s'.heap v ∧ Rp w μ s'.heap r d) NoE s :=
  wpAny_call (codeAny_mono (h A μ s v vs h1 h2 h3 h4 h5 h6 h7) fun r s' q => by
    rcases r with e | (v | _ | _ | _) <;> exact q)

noncomputable def callCxS (w : World) (A : Around) (n : Nat) (fd : FuncData) (a : Addr) (s : Shared) (μ : Addr → Prop) (as : List Addr) : Cx :=
  { rk := n, w := w, A := A.deeper (callEnvC fd s.heap.objs.size a), env := callEnvC fd s.heap.objs.size a, s₀ := s, μ₀ := μ, S := fun b => b ∈ as, pr := fun _ => False }

noncomputable def FnX (w : World) (f : Value) (n : Nat) (as : List Addr) (R : VP) (Φ : List Addr → VP → Prop) (ds : List D) (d : D) : Prop :=
  ∀ (A : Around) (μ : Addr → Prop) (s : Shared) (v : Value) (vs : List Value), Room A n → G w s.heap → MuOk μ s.heap → as.Nodup → (∀ a ∈ as, μ a ∧ Big a) → R μ s.heap v → RpL w μ s.heap vs ds →
    codeAny (model PG w) A (.call f ⟨v :: vs, []⟩) (RetR fun r s' => ∃ as' R', Φ as' R' ∧ ExtS as s s' ∧ as'.Nodup ∧ Stable as' R' ∧ (∀ b ∈ as', (b ∈ as ∨ s.heap.objs.size ≤ b) ∧ Big b ∧ ∃ o, s'.heap.get? b = some o) ∧ R' (fun b => μ b ∨ b ∈ as') s'.heap v ∧ Rp w μ s'.heap r d) s

theorem FnX_intro {w : World} {a : Addr} {fd : FuncData} {n : Nat} {body : List Stmt} {p0 : Str} {ps : List Str} {as : List Addr} {R : VP} {Φ : List Addr → VP → Prop} {ds : List D} {d : D} {v0 : Value} (hm : (a, fd) ∈ fnTable) (hbody : fd.body = .stmts body)
    (hbind : ∀ vs : List Value, vs.length = (p0 :: ps).length → bindArgs fd ⟨vs, []⟩ = pure ((p0 :: ps).zip vs)) (hclo : fd.closure = [])
    (hlen : ds.length = ps.length)
    (hok : ∀ x ∈ p0 :: ps, okName x = true)
    (hkind' : ∀ x ∈ p0 :: ps, fd.scope.names.lookup x = some .local ∨ fd.scope.names.lookup x = some .cell)
    (hnd : (fd.scope.names.map (·.1)).Nodup) (hp0 : p0 ∉ ps)
    (hco : fd.scope.isCoroutine = false) (hgen : fd.scope.isGenerator = false) (hk : fd.scope.kind = .function) (hglob : fd.globals = 3) (hblt : fd.builtins = builtinsNs)
    (hR : Stable as R) (hv : ∀ μ h v, R μ h v → v = v0) (hv' : ∀ as' R', Φ as' R' → ∀ μ h v, R' μ h v → v = v0)
    (h : ∀ A μ s, W (callCxS w A n fd a s μ as) (upd (locOf Loc.nil ps ds) p0 (.own as R)) body (fun o => match o with | .ret d' ρ' => d' = d ∧ ∃ as' R', Φ as' R' ∧ ρ' p0 = some (.own as' R') | .next ρ' => d = .none ∧ ∃ as' R', Φ as' R' ∧ ρ' p0 = some (.own as' R') | _ => False)) :
    FnX w (.ref a) (n + 1) as R Φ ds d := by
  have hkind : ∀ L, ∀ x ∈ p0 :: ps, fd.scope.names.lookup x = some .local ∨ (fd.scope.names.lookup x = some .cell ∧ ((cellsFrom L fd.scope.names []).lookup x).isSome = true) :=
    fun L x hx => (hkind' x hx).imp (fun z => z) fun z => ⟨z, cellsFrom_has x L _ [] z⟩
  intro A μ s v vs hA hG hμ hasn has hrv hr
  have hv0 := hv _ _ _ hrv
  have hvl : (v :: vs).length = (p0 :: ps).length := by rw [List.length_cons, hr.length, List.length_cons, hlen]
  obtain ⟨hfo, hcr⟩ := hG.fns _ hm
  refine codeAny_call_cells (by show A.depth < 1000; have := hA.2.1; (first | lia | omega)) hfo rfl hG.lim hcr hbody (hbind (v :: vs) hvl) hclo ?_ (fun s₁ x => ?_) hco hgen hk
  · intro p hp
    exact hkind _ p.1 (List.of_mem_zip hp).1
  · have L := x.toInCall
    obtain ⟨h₁, tk, e⟩ := L.same
    let c := callCxS w A n fd a s μ as
    let μ' : Addr → Prop := fun b => μ b ∨ b ∈ c.fp
    have hcell : ∀ p ∈ c.env.cells, s.heap.objs.size + 1 ≤ p.2 := fun p hp => cellsFrom_ge _ _ [] (fun _ h => nomatch h) (Nat.le_refl _) p hp
    have hfp : ∀ b ∈ c.fp, s.heap.objs.size ≤ b := fun b hb => by
      rcases List.mem_cons.mp hb with rfl | hb
      · exact Nat.le_refl _
      · obtain ⟨q, hq, rfl⟩ := List.mem_map.mp hb
        exact Nat.le_of_succ_le (hcell q hq)
    have hcn : (c.env.cells.map (·.1)).Nodup := cellsFrom_nodup _ _ [] hnd List.nodup_nil (fun _ _ h => by cases h)
    have hfl : ∀ b ∈ c.fp, ∃ o, s₁.heap.get? b = some o := fun b hb => by
      rcases List.mem_cons.mp hb with rfl | hb
      · obtain ⟨o, _, _, ho, _⟩ := L.ns; exact ⟨o, ho⟩
      · obtain ⟨q, hq, rfl⟩ := List.mem_map.mp hb
        obtain ⟨o, ho, _⟩ := x.cell _ _ (lookup_mem hcn hq); exact ⟨o, ho⟩
    have hE : Ext s s₁ := by rw [e] at L ⊢; exact Ext.of_keep L.keep
    have hliv : ∀ b, μ b → ∃ o, s₁.heap.get? b = some o := fun b q => by
      obtain ⟨o, e'⟩ := hμ.live b q
      exact ⟨o, L.keep b o e'⟩
    have hgrow : ∀ b o, s.heap.get? b = some o → ¬ μ b → ¬ μ' b := fun b o hb n => by
      rintro (z | z)
      · exact n z
      · exact Nat.not_lt.mpr (hfp b z) (Heap.lt_size hb)
    have haf : ∀ b ∈ as, b ∉ c.fp := fun b hb z => by
      obtain ⟨o, ho⟩ := hμ.live b (has b hb).1
      exact Nat.not_lt.mpr (hfp b z) (Heap.lt_size ho)
    have hself : (upd (locOf Loc.nil ps ds) p0 (.own as R)) p0 = some (.own as R) := by unfold upd; rw [if_pos rfl]
    have t : StM c μ' (upd (locOf Loc.nil ps ds) p0 (.own as R)) s₁ := by
      refine ⟨⟨hA.1, ?_, ?_⟩, hG.ext hE, fun b o e' _ n => hE.keep b o e' n, hE.os, hE.bare, fun _ q => .inl q, fun b q => (let ⟨_, e'⟩ := hμ.live b q; Heap.lt_size e'), fun b q => q.elim .inl fun q => .inr (hfp b q), fun b q => q.elim (fun q => hliv b q) (hfl b),
        .inl hμ.t, fun b q => q.elim (hμ.ge b) fun q => .inl (Nat.le_trans hG.size (hfp b q)), fun h => h, fun _ h => h.elim, ?_⟩
      · show A.depth + 1 + n < 900; have := hA.2.1; (first | lia | omega)
      · show A.units + 3 + 100 * n + 1000 < 9900; have := hA.2.2; (first | lia | omega)
      refine ⟨hk, hglob, hblt, .inr List.mem_cons_self, Nat.le_refl _, fun p hp => .inr (List.mem_cons_of_mem _ (List.mem_map.mpr ⟨p, hp, rfl⟩)), fun y cl e' => ⟨_, x.cell y cl e'⟩, (fun y cl e' z => by
          have h1 := cellsFrom_kind _ _ _ _ (mem_of_lookup e')
          rcases h1 with h1 | h1
          · cases h1
          · have h2 : fd.scope.names.lookup y = some .cell := lookup_mem hnd h1
            have h3 : fd.scope.names.lookup y = some .local := z
            rw [h2] at h3; cases h3), x.apart,
        fun p hp => Nat.ne_of_gt (hcell p hp), fun b hb => Nat.le_trans hG.size (hfp b hb), fun _ _ h => h, ?_, ?_, ?_⟩
      · refine ⟨_, L.ns, fun y l e' => ?_⟩
        have place : ∀ (u : Value), y ∈ p0 :: ps → ((p0 :: ps).zip (v :: vs)).reverse.lookup y = some u → VarAt c.env (bindL (callEnvC fd s.heap.objs.size a).kindOf ((p0 :: ps).zip (v :: vs)) fun _ => none) s₁.heap y u := fun u hy h1 => by
          rcases hkind (s.heap.objs.size + 1) y hy with hl | ⟨hl, hc⟩
          · refine .inl ⟨hl, ?_⟩
            rw [bindL_last _ y hl, h1]
          · obtain ⟨cl, hc⟩ := Option.isSome_iff_exists.mp hc
            refine .inr ⟨.inl hl, cl, hc, ?_⟩
            have := x.cell y cl hc
            rw [bindC_last _ y (by intro z; rw [show (callEnvC fd s.heap.objs.size a).kindOf y = some .cell from hl] at z; cases z), h1] at this
            exact this
        unfold upd at e'
        by_cases hy0 : y = p0
        · rw [if_pos hy0] at e'; cases e'; subst hy0
          refine ⟨hok y List.mem_cons_self, v, place v List.mem_cons_self ?_, ?_⟩
          · rw [List.zip_cons_cons, List.reverse_cons, List.lookup_append]
            have : (ps.zip vs).reverse.lookup y = none := by
              cases hq : (ps.zip vs).reverse.lookup y with
              | none => rfl
              | some u => exact absurd (List.of_mem_zip (List.mem_reverse.mp (mem_of_lookup hq))).1 hp0
            rw [this]; simp
          · exact hR μ μ' s.heap s₁.heap v hgrow (fun b o _ e => L.keep b o e) hrv
        · rw [if_neg hy0] at e'
          rcases locOf_last y ps vs ds _ l hr e' with ⟨u, d', h1, rfl, h3⟩ | ⟨_, h2⟩
          · have hy : y ∈ ps := by
              have := mem_of_lookup h1
              exact (List.of_mem_zip (List.mem_reverse.mp this)).1
            refine ⟨hok y (List.mem_cons_of_mem _ hy), u, place u (List.mem_cons_of_mem _ hy) ?_, ?_⟩
            · rw [List.zip_cons_cons, List.reverse_cons, List.lookup_append, h1]; rfl
            · refine Rp.ext (c := c) (μ := μ') (.inl hμ.t) hE ?_
              exact Rp.grow hgrow h3
          · cases h2
      · intro y l e'
        unfold upd at e'
        by_cases hy0 : y = p0
        · rw [if_pos hy0] at e'; cases e'
          exact ⟨hR, hasn, fun b hb => ⟨.inl (has b hb).1, haf b hb, fun h => h, .inr hb, (has b hb).2⟩⟩
        · rw [if_neg hy0] at e'
          rcases locOf_last y ps vs ds _ l hr e' with ⟨v, d', h1, rfl, h3⟩ | ⟨_, h2⟩
          · exact ⟨trivial, List.nodup_nil, fun _ h => by cases h⟩
          · cases h2
      · intro y z l k e' e'' hyz b hb
        unfold upd at e' e''
        by_cases hy0 : y = p0
        · rw [if_neg (fun e => hyz (hy0.trans e.symm))] at e''
          rcases locOf_last z ps vs ds _ k hr e'' with ⟨v, d', h1, rfl, h3⟩ | ⟨_, h2⟩
          · intro h; cases h
          · cases h2
        · rw [if_neg hy0] at e'
          rcases locOf_last y ps vs ds _ l hr e' with ⟨v, d', h1, rfl, h3⟩ | ⟨_, h2⟩
          · cases hb
          · cases h2
    refine wpAny_mono (h A μ s μ' s₁ t) (fun f s' q => ?_) fun _ _ z => z.elim
    obtain ⟨o, μ'', q, r, _⟩ := q
    have fin : ∀ (ρ' : Loc) (μ'' : Addr → Prop) (r : Value) (as' : List Addr) (R' : VP), StM c μ'' ρ' s' → Rp w μ'' s'.heap r d → Φ as' R' → ρ' p0 = some (.own as' R') →
        ∃ as' R', Φ as' R' ∧ ExtS as s s' ∧ as'.Nodup ∧ Stable as' R' ∧ (∀ b ∈ as', (b ∈ as ∨ s.heap.objs.size ≤ b) ∧ Big b ∧ ∃ o, s'.heap.get? b = some o) ∧ R' (fun b => μ b ∨ b ∈ as') s'.heap v ∧ Rp w μ s'.heap r d := fun ρ' μ'' r as' R' t' r' hΦ hρ => by
      obtain ⟨hst', hnd', hown'⟩ := t'.frame.own p0 _ hρ
      refine ⟨as', R', hΦ, ⟨fun b o e n n' => t'.keep b o e n' n, t'.os, t'.bare, t'.g.tab, fun b hb => t'.live b (t'.mu0 b (has b hb).1)⟩, hnd', hst', fun b hb => ?_, ?_, Rp.keep (fun b n z => n (t'.mu0 b z)) (fun _ _ _ e => e) r'⟩
      · have hb' := hown' b hb
        exact ⟨hb'.2.2.2.1.elim .inr .inl, hb'.2.2.2.2, t'.live b hb'.1⟩
      · obtain ⟨m, hn, hvar⟩ := t'.frame.var
        obtain ⟨_, u, _, ru⟩ := hvar p0 _ hρ
        have : u = v0 := hv' as' R' hΦ _ _ _ ru
        subst this
        subst hv0
        exact hst' μ'' _ s'.heap s'.heap _ (fun b o _ n z => n (z.elim (t'.mu0 b) fun z => (hown' b z).1)) (fun _ _ _ e => e) ru
    cases o with
    | next ρ' => obtain ⟨rfl, t'⟩ := r; obtain ⟨q1, as', R', q2, q3⟩ := q; cases q1; exact fin ρ' μ'' _ as' R' t' .none q2 q3
    | brk ρ' => exact q.elim
    | cont ρ' => exact q.elim
    | ret d' ρ' => obtain ⟨v, rfl, t', r'⟩ := r; obtain ⟨q1, as', R', q2, q3⟩ := q; cases q1; exact fin ρ' μ'' _ as' R' t' r' q2 q3
theorem FnO.toX {w : World} {f : Value} {n : Nat} {as : List Addr} {R R' : VP} {ds : List D} {d : D} (h : FnO w f n as R R' ds d) (hst : Stable as R') : FnX w f n as R (fun as' R₂ => as' = as ∧ R₂ = R') ds d :=
  fun A μ s v vs hA hG hμ hn has hr hl => codeAny_mono (h A μ s v vs hA hG hμ hn has hr hl) fun r s' q => by
    rcases r with e | (v' | _ | _ | _) <;> first | exact q.elim | skip
    exact ⟨as, R', ⟨rfl, rfl⟩, q.1, hn, hst, fun b hb => ⟨.inl hb, (has b hb).2, q.1.live b hb⟩, hst _ _ _ _ _ (fun a o _ n z => n (z.elim (fun z => z) fun z => (has a z).1)) (fun _ _ _ e => e) q.2.1, q.2.2⟩
theorem FnO_intro {w : World} {a : Addr} {fd : FuncData} {n : Nat} {body : List Stmt} {p0 : Str} {ps : List Str} {as : List Addr} {R R' : VP} {ds : List D} {d : D} {v0 : Value} (hm : (a, fd) ∈ fnTable) (hbody : fd.body = .stmts body)
    (hbind : ∀ vs : List Value, vs.length = (p0 :: ps).length → bindArgs fd ⟨vs, []⟩ = pure ((p0 :: ps).zip vs)) (hclo : fd.closure = [])
    (hlen : ds.length = ps.length)
    (hok : ∀ x ∈ p0 :: ps, okName x = true)
    (hkind' : ∀ x ∈ p0 :: ps, fd.scope.names.lookup x = some .local ∨ fd.scope.names.lookup x = some .cell)
    (hnd : (fd.scope.names.map (·.1)).Nodup) (hp0 : p0 ∉ ps)
    (hco : fd.scope.isCoroutine = false) (hgen : fd.scope.isGenerator = false) (hk : fd.scope.kind = .function) (hglob : fd.globals = 3) (hblt : fd.builtins = builtinsNs)
    (hR : Stable as R) (hR' : Stable as R') (hv : ∀ μ h v, R μ h v → v = v0) (hv' : ∀ μ h v, R' μ h v → v = v0)
    (h : ∀ A μ s, W (callCxS w A n fd a s μ as) (upd (locOf Loc.nil ps ds) p0 (.own as R)) body (fun o => match o with | .ret d' ρ' => d' = d ∧ ρ' p0 = some (.own as R') | .next ρ' => d = .none ∧ ρ' p0 = some (.own as R') | _ => False)) :
    FnO w (.ref a) (n + 1) as R R' ds d := by
  intro A μ s v vs hA hG hμ hn has hr hl
  refine codeAny_mono (FnX_intro (Φ := fun as' R₂ => as' = as ∧ R₂ = R') hm hbody hbind hclo hlen hok hkind' hnd hp0 hco hgen hk hglob hblt hR hv (fun as' R₂ e => by obtain ⟨rfl, rfl⟩ := e; exact hv')
    (fun A μ s => (h A μ s).mono fun o q => by
      cases o with
      | ret d' ρ' => exact ⟨q.1, as, R', ⟨rfl, rfl⟩, q.2⟩
      | next ρ' => exact ⟨q.1, as, R', ⟨rfl, rfl⟩, q.2⟩
      | brk ρ' => exact q.elim
      | cont ρ' => exact q.elim) A μ s v vs hA hG hμ hn has hr hl) fun r s' q => ?_
  rcases r with e | (v' | _ | _ | _) <;> first | exact q.elim | skip
  obtain ⟨as', R₂, ⟨rfl, rfl⟩, hE, _, _, _, hR2, hr2⟩ := q
  exact ⟨hE, hR' _ _ _ _ _ (fun a o _ n z => n (.inl z)) (fun _ _ _ e => e) hR2, hr2⟩
end Mine
end

noncomputable section -- MU
open PySem PyProof.Rows
set_option maxRecDepth 100000
namespace Mine

section
variable {c : Cx} {ρ : Loc} {μ : Addr → Prop} {s s' : Shared} {Q : Out → Prop}

theorem EvV_getmeth {o : Expr} {name : Str} {C N f : Addr} {fd : FuncData} {tab : List (Str × Option Value)} {l : List (Str × D)} {v : Value} {pl : Sem Bool} {Q' : Value × List Value → Shared → Prop} (t : StM c μ ρ s) (r : Rp c.w μ s.heap v (.inst C l))
    (hc : (C, N, tab) ∈ clsTab) (hg : (Str.ofString "__getattribute__", none) ∈ tab) (hg' : (Str.ofString "__getattr__", none) ∈ tab) (hn : (name, some (.ref f)) ∈ tab) (hf : (f, fd) ∈ fnTable) (hB : typeLookup (.type "object") name = pure none) (hl : lookD l name = none)
    (hq : Q' (.ref f, [v]) s) : wpAny (model PG c.w) c.A (getMethod v name pl) Q' NoE s := by
  cases r with
  | @inst _ a dd o kvs _ n1 n2 hne e ho ns rk =>
    obtain ⟨mN, X, hX⟩ := t.g.cls _ hc
    refine cls_elim X fun nm q bs sn sub col dd k0 k1 k2 k3 k5 hC => ?_
    have hfo := (t.g.fns _ hf).1
    obtain ⟨hp, g, dr, tk, os⟩ := s
    exact method_of hC X.ns (hX _ hg) (hX _ hg') (hX _ hn) hfo rfl hB (inst_of e ho hne ns) (rk.lookNone hl) hq

theorem Ev_meth0 {o : Expr} {name : Str} {apos pos : Pos} {C N f : Addr} {fd : FuncData} {tab : List (Str × Option Value)} {l : List (Str × D)} {n : Nat} {spec : List D → D → Prop} {d : D} {pl : Sem Bool} (h : Ev c ρ o (.inst C l))
    (hc : (C, N, tab) ∈ clsTab) (hg : (Str.ofString "__getattribute__", none) ∈ tab) (hg' : (Str.ofString "__getattr__", none) ∈ tab) (hn : (name, some (.ref f)) ∈ tab) (hf : (f, fd) ∈ fnTable) (hB : typeLookup (.type "object") name = pure none) (hl : lookD l name = none)
    (hF : Fn c.w (.ref f) n spec) (hs : spec [.inst C l] d) (hr : n ≤ c.rk)
    (he : eval (.Call (.Attribute o name apos) [] [] pos) c.env = (do
      let ov ← eval o c.env
      standAt apos.atName
      let (f, first) ← holding [ov] (getMethod ov name pl)
      callWith pos f first (backTo pos (starEach [] c.env)) []) := by rfl) : Ev c ρ (.Call (.Attribute o name apos) [] [] pos) d := fun μ s t => by
  refine MethodCall_ (pl := pl) (wpAny_mono (h μ s t) (fun v s1 q1 => ?_) fun _ _ x => x) he
  have t1 := t.ext q1.1
  refine EvV_getmeth (o := o) t1 q1.2 hc hg hg' hn hf hB hl ?_
  refine callWith_meth0 (o := fnObj fd) (fd := fd) rfl (t1.g.fns _ hf).1 ?_
  exact wpAny_mono (hF c.A μ s1 [v] [.inst C l] d (t1.room.le hr) t1.g t1.muOk (.cons q1.2 .nil) hs) (fun _ _ q => ⟨q1.1.trans q.1, q.2⟩) fun _ _ x => x

theorem callWith_meth' {A : Around} {M : Model} {E : Value → Shared → Prop} {s : Shared} {env : Env} {pos : Pos} {f : Addr} {o : Obj} {fd : FuncData} {first : List Value} {e : Expr} {rest : List Expr} {Q : Value → Shared → Prop} (hdat : o.data = .func fd)
    (h : wpAny M A (spliced (backTo pos (starEach (e :: rest) env))) (fun vs s₁ => s₁.heap.get? f = some o ∧ wpAny M A (call (.ref f) (first ++ vs)) Q E s₁) E s)
    (he : starEach (e :: rest) env = (false, eval e env) :: starEach rest env := by rfl) :
    wpAny M A (callWith pos (.ref f) first (backTo pos (starEach (e :: rest) env)) []) Q E s := by
  rw [he] at h ⊢
  exact Calls.callWith_function (o := o) (fd := fd) (Calls.evalArgs_plain (wpAny_mono h (fun vs s₁ h₁ => ⟨⟨h₁.1, hdat⟩, h₁.2⟩) fun _ _ x => x))

theorem Ev_meth1 {o e : Expr} {name : Str} {apos pos : Pos} {C N f : Addr} {fd : FuncData} {tab : List (Str × Option Value)} {l : List (Str × D)} {n : Nat} {spec : List D → D → Prop} {d d1 : D} {pl : Sem Bool} (h : Ev c ρ o (.inst C l)) (h1 : Ev c ρ e d1)
    (hc : (C, N, tab) ∈ clsTab) (hg : (Str.ofString "__getattribute__", none) ∈ tab) (hg' : (Str.ofString "__getattr__", none) ∈ tab) (hn : (name, some (.ref f)) ∈ tab) (hf : (f, fd) ∈ fnTable) (hB : typeLookup (.type "object") name = pure none) (hl : lookD l name = none)
    (hF : Fn c.w (.ref f) n spec) (hs : spec [.inst C l, d1] d) (hr : n ≤ c.rk)
    (he : eval (.Call (.Attribute o name apos) [e] [] pos) c.env = (do
      let ov ← eval o c.env
      standAt apos.atName
      let (f, first) ← holding [ov] (getMethod ov name pl)
      callWith pos f first (backTo pos (starEach [e] c.env)) []) := by rfl) (hst : starEach [e] c.env = [(false, eval e c.env)] := by rfl) : Ev c ρ (.Call (.Attribute o name apos) [e] [] pos) d := fun μ s t => by
  refine MethodCall_ (pl := pl) (wpAny_mono (h μ s t) (fun v s1 q1 => ?_) fun _ _ x => x) he
  have t1 := t.ext q1.1
  refine EvV_getmeth (o := o) t1 q1.2 hc hg hg' hn hf hB hl ?_
  refine callWith_meth' (o := fnObj fd) (fd := fd) rfl (wpAny_mono (EvL_cons (pos := pos) h1 EvL_nil hst μ s1 t1) (fun vs s2 q2 => ?_) fun _ _ x => x) hst
  have t2 := t1.ext q2.1
  refine ⟨(t2.g.fns _ hf).1, ?_⟩
  exact wpAny_mono (hF c.A μ s2 (v :: vs) [.inst C l, d1] d (t2.room.le hr) t2.g t2.muOk (.cons (Rp.ext t.mu72 q2.1 q1.2) q2.2) hs) (fun _ _ q => ⟨(q1.1.trans q2.1).trans q.1, q.2⟩) fun _ _ x => x

theorem Ev_wsS {np pos : Pos} (hk : c.env.kindOf "Whitespace" = some .globalImplicit)
    (he : eval (.Attribute (.Name "Whitespace" np) "S" pos) c.env = (do
      let o' ← eval (.Name "Whitespace" np) c.env
      standAt pos.atName
      let r ← holding [o'] (getAttr o' "S" true)
      letTemporaryGo (.Name "Whitespace" np) o' r
      pure r) := by with_unfolding_all rfl) : Ev c ρ (.Attribute (.Name "Whitespace" np) "S" pos) (.str (Str.ofString " ")) := fun μ s t => by
  refine Attribute_any_ (wpAny_mono (EvV_glob (v := .ref 139) (by exact mem_lk (by kernel_rfl)) hk (by decide) μ s t) (fun v s1 q => ?_) fun _ _ x => x) he
  obtain ⟨x1, rfl⟩ := q
  obtain ⟨K, X, ok⟩ := (t.ext x1).g.frag
  exact PySem.W.cls_value X ok.reads ok.s rfl ⟨x1.trans (Ext.toks s1 _), .str _ _⟩
theorem Ev_wsT {np pos : Pos} (hk : c.env.kindOf "Whitespace" = some .globalImplicit)
    (he : eval (.Attribute (.Name "Whitespace" np) "T" pos) c.env = (do
      let o' ← eval (.Name "Whitespace" np) c.env
      standAt pos.atName
      let r ← holding [o'] (getAttr o' "T" true)
      letTemporaryGo (.Name "Whitespace" np) o' r
      pure r) := by with_unfolding_all rfl) : Ev c ρ (.Attribute (.Name "Whitespace" np) "T" pos) (.str (Str.ofString "\t")) := fun μ s t => by
  refine Attribute_any_ (wpAny_mono (EvV_glob (v := .ref 139) (by exact mem_lk (by kernel_rfl)) hk (by decide) μ s t) (fun v s1 q => ?_) fun _ _ x => x) he
  obtain ⟨x1, rfl⟩ := q
  obtain ⟨K, X, ok⟩ := (t.ext x1).g.frag
  exact PySem.W.cls_value X ok.reads ok.t rfl ⟨x1.trans (Ext.toks s1 _), .str _ _⟩

theorem wp_newX {x : Str} {np pos : Pos} {e : Expr} {C N f : Addr} {fd : FuncData} {tab : List (Str × Option Value)} {Φ : Addr → Addr → List Addr → VP → Prop} {n : Nat} {d1 : D} (t : StM c μ ρ s) (h1 : Ev c ρ e d1) (hgl : (x, .ref C) ∈ globTable) (hk : c.env.kindOf x = some .globalImplicit)
    (hc : (C, N, tab) ∈ clsTab) (hmk : (C, f) ∈ ([(59, 35), (139, 94)] : List (Addr × Addr))) (hf : (f, fd) ∈ fnTable)
    (hF : ∀ a dd, FnX c.w (.ref f) n [a, dd] (oiR c.w a dd C []) (Φ a dd) [d1] .none) (hr : n + 1 ≤ c.rk) (hd : (x == ("__debug__" : Str)) = false := by decide)
    (hst : starEach [e] c.env = [(false, eval e c.env)] := by rfl) : wpAny (model PG c.w) c.A (eval (.Call (.Name x np) [e] [] pos) c.env) (fun v s' => ∃ s₁ a dd as' R', v = .ref a ∧ Φ a dd as' R' ∧ Ext s s₁ ∧ Ext s₁ s' ∧ as'.Nodup ∧ (∀ b ∈ as', s₁.heap.objs.size ≤ b ∧ Big b ∧ ∃ o, s'.heap.get? b = some o) ∧ R' (fun b => μ b ∨ b ∈ as') s'.heap v) NoE s := by
  refine Call_ (wpAny_mono (EvV_glob hgl hk hd μ s t) (fun v s1 q => ?_) fun _ _ x => x)
  obtain ⟨x1, rfl⟩ := q
  have t1 := t.ext x1
  have hEL := EvL_cons (pos := pos) h1 EvL_nil hst μ s1 t1
  unfold callWith
  rw [hst] at hEL ⊢
  refine wpAny_bind (wpAny_holding (Calls.evalArgs_plain (wpAny_mono hEL (fun vs s2 q2 => ?_) fun _ _ x => x)))
  obtain ⟨x2, rl⟩ := q2
  cases rl using RpL.elimCons with
  | @cons u us ru rn =>
  cases rn
  have t2 := t1.ext x2
  obtain ⟨mN, X, hX⟩ := t2.g.cls _ hc
  obtain ⟨K, XK, ok⟩ := t2.g.frag
  obtain ⟨k1, k2, k3⟩ := ok.makes _ hmk
  refine cls_elim X fun nm q bs sn sub col dd k0 k1' k2' k3' k5 hC => ?_
  have hfo := (t2.g.fns _ hf).1
  obtain ⟨hh, g, dr, tk, os⟩ := s2
  have f1 := tc_lookup
  have hT : (⟨hh, g, dr, tk, os⟩ : Shared).TypeIs (.ref C) "type" := ⟨_, hC, rfl⟩
  refine wpAny_bind (wpAny_standAt ?_)
  show wpAny _ _ (keeperOf (.ref C) >>= _) _ _ _
  unfold keeperOf specialOf
  repeat (any_goals (first | assumption | with_reducible refine wpAny_loadPart_at hC ?_ | with_reducible refine wpAny_load' hC ?_ | wp_step))
  refine PySem.W.make_core (rest := [u]) (PySem.W.makes_of XK k1) (PySem.W.looks_findIn XK k2) (fun self => PySem.W.bind_fn XK self k3) (.inl rfl) ?_
  have hsz : 185 ≤ hh.objs.size := t2.g.size
  generalize hde : hh.objs.size = dd at *
  have hk3 : ∀ b o, hh.get? b = some o → ((hh.push PySem.W.emptyDict).push (PySem.W.instObj C dd)).get? b = some o := fun b o e => Heap.get?_push_of_some _ (Heap.get?_push_of_some _ e)
  have e1 : ((hh.push PySem.W.emptyDict).push (PySem.W.instObj C dd)).get? (dd + 1) = some (PySem.W.instObj C dd) := by
    have : (hh.push PySem.W.emptyDict).objs.size = dd + 1 := by rw [Heap.size_push, hde]
    rw [← this]; exact Heap.get?_push_size _ rfl
  have e2 : ((hh.push PySem.W.emptyDict).push (PySem.W.instObj C dd)).get? dd = some PySem.W.emptyDict := Heap.get?_push_of_some _ (by rw [← hde]; exact Heap.get?_push_size _ rfl)
  generalize (hh.push PySem.W.emptyDict).push (PySem.W.instObj C dd) = h' at *
  have hne : dd ≠ dd + 1 := Nat.ne_of_lt (Nat.lt_succ_self _)
  have hns : h'.Ns1 dd (fun _ => none) := Heap.Ns1.of_empty ⟨_, #[], _, e2, rfl, fun e he => absurd he (by simp), fun _ => rfl⟩
  have x3 : Ext ⟨hh, g, dr, tk, os⟩ ⟨h', g, dr, tk, os⟩ := Ext.of_keep (s := ⟨hh, g, dr, tk, os⟩) (tk := tk) hk3
  have t3 := t2.ext x3
  have hlt : ∀ b o, hh.get? b = some o → b < dd := fun b o e => hde ▸ Heap.lt_size e
  have naM : ¬ μ (dd + 1) := fun z => by obtain ⟨o, e⟩ := t2.live _ z; exact Nat.not_lt.mpr (Nat.le_succ _) (hlt _ _ e)
  have ndM : ¬ μ dd := fun z => by obtain ⟨o, e⟩ := t2.live _ z; exact Nat.lt_irrefl _ (hlt _ _ e)
  have aBig : Big (dd + 1) := Nat.le_succ_of_le hsz
  have dBig : Big dd := hsz
  let μ' : Addr → Prop := fun b => μ b ∨ b = dd + 1 ∨ b = dd
  have hμ' : MuOk μ' h' := ⟨.inl t.mu72, fun b q => q.elim (t3.live b) fun q => q.elim (fun e => e ▸ ⟨_, e1⟩) fun e => e ▸ ⟨_, e2⟩, fun b q => q.elim (t3.ge b) fun q => .inl (q.elim (fun e => e ▸ aBig) fun e => e ▸ dBig)⟩
  have rm : Room (c.A.under (.builtin "type.__call__" ⟨.ref C :: [u], []⟩)) n := by
    have := t.room
    refine ⟨this.1, ?_, ?_⟩
    · show c.A.depth + 1 + n < 900; have := this.2.1; (first | lia | omega)
    · show c.A.units + _ + 100 * n + 1000 < 9900; have := this.2.2
      have hcu : (Code.builtin "type.__call__" ⟨.ref C :: [u], []⟩).cUnits ≤ 100 := by rw [show (Code.builtin "type.__call__" ⟨.ref C :: [u], []⟩).cUnits = 1 from rfl]; decide
      (first | lia | omega)
  refine codeAny_mono (hF (dd + 1) dd _ μ' ⟨h', g, dr, tk, os⟩ (.ref (dd + 1)) [u] rm t3.g hμ' (by simp) (fun b hb => ?_) ?_ (.cons ?_ .nil)) (fun r s4 q4 => ?_)
  · simp only [List.mem_cons, List.not_mem_nil, or_false] at hb
    exact ⟨.inr hb, hb.elim (fun e => e ▸ aBig) fun e => e ▸ dBig⟩
  · exact ⟨rfl, hne, ⟨_, e1, rfl, rfl, fun _ => by simp⟩, [], hns, .nil⟩
  · refine Rp.move ru (fun b o hb n z => ?_) fun b o n e => hk3 b o e
    rcases z with z | rfl | rfl
    · exact n z
    · exact Nat.not_lt.mpr (Nat.le_succ _) (hlt _ _ hb)
    · exact Nat.lt_irrefl _ (hlt _ _ hb)
  · rcases r with e | (v | _ | _ | _) <;> first | exact q4.elim | skip
    obtain ⟨as', R', hΦ, x4, hnd4, hst4, hb4, hR4, rn⟩ := q4
    cases rn
    refine ⟨rfl, ?_⟩
    show wpAny _ _ (do holding [Value.ref (dd + 1)] point; pure (Value.ref (dd + 1))) _ _ _
    refine wpAny_bind (wpAny_holding (wpAny_point (wpAny_pure ⟨_, dd + 1, dd, as', R', rfl, hΦ, x1.trans x2, ?_, hnd4, fun b hb => ?_, ?_⟩)))
    · refine ⟨fun b o e n => x4.keep b o (hk3 b o e) n fun z => ?_, x4.os, x4.bare, fun _ => x4.tab⟩
      simp only [List.mem_cons, List.not_mem_nil, or_false] at z
      rcases z with rfl | rfl
      · exact Nat.not_lt.mpr (Nat.le_succ _) (hlt _ _ e)
      · exact Nat.lt_irrefl _ (hlt _ _ e)
    · obtain ⟨z1, z2, z3⟩ := hb4 b hb
      refine ⟨?_, z2, z3⟩
      show hh.objs.size ≤ b
      rw [hde]
      rcases z1 with z1 | z1
      · simp only [List.mem_cons, List.not_mem_nil, or_false] at z1
        rcases z1 with rfl | rfl
        · exact Nat.le_succ _
        · exact Nat.le_refl _
      · have : dd < h'.objs.size := Heap.lt_size e2
        exact Nat.le_trans (Nat.le_of_lt this) z1
    · exact hst4 _ _ _ _ _ (fun b o _ n z => n (z.elim (fun z => .inl (.inl z)) .inr)) (fun _ _ _ e => e) hR4
theorem Ev_new1 {x : Str} {np pos : Pos} {e : Expr} {C N f : Addr} {fd : FuncData} {tab : List (Str × Option Value)} {l : List (Str × D)} {n : Nat} {d1 : D} (h1 : Ev c ρ e d1) (hgl : (x, .ref C) ∈ globTable) (hk : c.env.kindOf x = some .globalImplicit)
    (hc : (C, N, tab) ∈ clsTab) (hmk : (C, f) ∈ ([(59, 35), (139, 94)] : List (Addr × Addr))) (hf : (f, fd) ∈ fnTable)
    (hF : ∀ a dd, FnO c.w (.ref f) n [a, dd] (oiR c.w a dd C []) (oiR c.w a dd C l) [d1] .none) (hr : n + 1 ≤ c.rk) (hd : (x == ("__debug__" : Str)) = false := by decide)
    (hst : starEach [e] c.env = [(false, eval e c.env)] := by rfl) : Ev c ρ (.Call (.Name x np) [e] [] pos) (.inst C l) := fun μ s t => by
  refine wpAny_mono (wp_newX (Φ := fun a dd as' R' => as' = [a, dd] ∧ R' = oiR c.w a dd C l) t h1 hgl hk hc hmk hf (fun a dd => (hF a dd).toX oiR_stable) hr hd hst) (fun v s' q => ?_) fun _ _ z => z
  obtain ⟨s₁, a, dd, as', R', rfl, ⟨rfl, rfl⟩, x1, x2, hnd, hb, hR⟩ := q
  obtain ⟨_, hne, ⟨oo, o1, o2⟩, kvs, n1, rk⟩ := hR
  have fresh : ∀ b ∈ [a, dd], ¬ μ b := fun b hb' z => let ⟨o, e⟩ := (t.ext x1).live b z; Nat.not_lt.mpr (hb b hb').1 (Heap.lt_size e)
  exact ⟨x1.trans x2, .inst (fresh a (.head _)) (fresh dd (.tail _ (.head _))) hne o1 o2 n1 (RpK.keep (fun b n z => n (.inl z)) (fun _ _ _ e => e) rk)⟩
end
end Mine
end

noncomputable section -- MV
open PySem PyProof.Rows
set_option maxRecDepth 100000
namespace Mine

noncomputable def lsP (w : World) (ds : List D) : VP := fun μ h v => ∃ a vs n, v = .ref a ∧ h.get? a = some (lstO vs n) ∧ RpL w μ h vs.toList ds
theorem lsP.fz {w : World} {ds : List D} {μ : Addr → Prop} {h : Heap} {v : Value} (r : isD w (.lst ds) μ h v) : lsP w ds μ h v := by
  cases r using Rp.elimLst with | lst _ e r => exact ⟨_, _, _, rfl, e, r⟩
theorem lsP.ol {w : World} {ds : List D} {a : Addr} {μ : Addr → Prop} {h : Heap} {v : Value} (r : olR w a ds μ h v) : lsP w ds μ h v := by
  obtain ⟨rfl, vs, n, e, r⟩ := r; exact ⟨_, _, _, rfl, e, r⟩

section
variable {c : Cx} {ρ : Loc} {μ : Addr → Prop} {s s' : Shared} {Q : Out → Prop}

noncomputable def EvF (c : Cx) (ρ : Loc) (e : Expr) (ds : List D) : Prop :=
  ∀ μ s, StM c μ ρ s → wpAny (model PG c.w) c.A (eval e c.env) (fun v s' => ∃ s₁ a vs n, Ext s s₁ ∧ Ext s₁ s' ∧ v = .ref a ∧ s₁.heap.objs.size ≤ a ∧ s'.heap.get? a = some (lstO vs n) ∧ RpL c.w (fun b => μ b ∨ b = a) s'.heap vs.toList ds) NoE s
theorem EvF.ev {e : Expr} {ds : List D} (h : EvF c ρ e ds) : Ev c ρ e (.lst ds) := fun μ s t => wpAny_mono (h μ s t) (fun v s' q => by
  obtain ⟨s₁, a, vs, n, x, x', rfl, ha, e, r⟩ := q
  exact ⟨x.trans x', .lst (fresh_not (t.ext x) ha) e (RpL.keep (fun b n z => n (.inl z)) (fun _ _ _ e => e) r)⟩) fun _ _ x => x
theorem EvF.eq {e : Expr} {ds ds' : List D} (h : EvF c ρ e ds) (hd : ds = ds') : EvF c ρ e ds' := hd ▸ h
theorem grow_at {vs : List Value} {ds : List D} {a : Addr} (t : StM c μ ρ s) (x : Ext s s') (ha : s.heap.objs.size ≤ a) (r : RpL c.w μ s.heap vs ds) : RpL c.w (fun b => μ b ∨ b = a) s'.heap vs ds :=
  r.mv (.grow t x ha)
theorem EvF_lst {es : List Expr} {pos : Pos} {ds : List D} (h : EvL c ρ pos es ds) (hz : ds.length ≤ sizeLine := by decide) : EvF c ρ (.List es pos) ds := fun μ s t =>
  wpAny_List (wpAny_mono (h μ s t) (fun vs s1 q => ⟨by rw [q.2.length]; exact hz, s1, _, _, _, q.1, Ext.push s1 _ s1.toks, rfl, Nat.le_refl _, Heap.get?_push_size _ rfl, grow_at (t.ext q.1) (Ext.push s1 _ s1.toks) (Nat.le_refl _) q.2⟩) fun _ _ x => x)
theorem EvF_cat {l r : Expr} {pos : Pos} {P1 P2 : VP} {ds1 ds2 : List D} (h1 : EvV c ρ l P1) (h2 : EvV c ρ r P2) (hp : SP c ρ P1) (k1 : ∀ μ h v, P1 μ h v → lsP c.w ds1 μ h v) (k2 : ∀ μ h v, P2 μ h v → lsP c.w ds2 μ h v)
    (hz : ds1.length + ds2.length ≤ sizeLine) : EvF c ρ (.BinOp l .Add r pos) (ds1 ++ ds2) := fun μ s t => by
  refine wpAny_BinOp (wpAny_mono (h1 μ s t) (fun v1 s1 q1 => wpAny_mono (h2 μ s1 (t.ext q1.1)) (fun v2 s2 q2 => ?_) fun _ _ x => x) fun _ _ x => x)
  obtain ⟨a, vs, n, rfl, e1, r1⟩ := k1 _ _ _ (hp _ _ _ _ (t.ext q1.1) q2.1 q1.2)
  obtain ⟨b, us, m, rfl, e2, r2⟩ := k2 _ _ _ q2.2
  have l1 := r1.length
  have l2 := r2.length
  rw [Array.length_toList] at l1 l2
  refine concat_meets ⟨_, e1, rfl⟩ ⟨_, e2, rfl⟩ noFill_list_add seq_list_add PySem.F.slot_list_add PySem.F.entry_list_add (PySem.F.args_list_add_2 _ _) (list_addW a b vs us n m none none #[] #[] (by (first | lia | omega))) ⟨e1, e2, ?_⟩
  exact ⟨s2, _, _, _, q1.1.trans q2.1, Ext.push s2 _ s2.toks, rfl, Nat.le_refl _, Heap.get?_push_size _ rfl, grow_at ((t.ext q1.1).ext q2.1) (Ext.push s2 _ s2.toks) (Nat.le_refl _) (by rw [Array.toList_append]; exact r1.append r2)⟩
theorem foldl_app (xs : List Value) : ∀ (k : Nat) (acc : Array Value), (List.foldl (fun x1 x2 => x1 ++ x2) acc (List.replicate k xs.toArray)).toList = acc.toList ++ (List.replicate k xs).flatten
  | 0, acc => by simp
  | k + 1, acc => by rw [List.replicate_succ, List.foldl_cons, foldl_app xs k]; simp [List.replicate_succ]
theorem RpL.rep {w : World} {h : Heap} {vs : List Value} {ds : List D} (r : RpL w μ h vs ds) : ∀ k : Nat, RpL w μ h (List.replicate k vs).flatten (List.replicate k ds).flatten
  | 0 => .nil
  | k + 1 => by rw [List.replicate_succ, List.replicate_succ, List.flatten_cons, List.flatten_cons]; exact r.append (RpL.rep r k)
theorem EvF_mul {l r : Expr} {pos : Pos} {P1 : VP} {ds : List D} {k : Int} (h1 : EvV c ρ l P1) (h2 : Ev c ρ r (.int k)) (hp : SP c ρ P1) (k1 : ∀ μ h v, P1 μ h v → lsP c.w ds μ h v) (hne : ds ≠ [])
    (hz : ds.length * k.toNat ≤ 1000) (hk : -1000 ≤ k) : EvF c ρ (.BinOp l .Mult r pos) (List.replicate k.toNat ds).flatten := fun μ s t => by
  refine wpAny_BinOp (wpAny_mono (h1 μ s t) (fun v1 s1 q1 => wpAny_mono (h2 μ s1 (t.ext q1.1)) (fun v2 s2 q2 => ?_) fun _ _ x => x) fun _ _ x => x)
  obtain ⟨a, vs, n, rfl, e1, r1⟩ := k1 _ _ _ (hp _ _ _ _ (t.ext q1.1) q2.1 q1.2)
  have l1 := r1.length
  rw [Array.length_toList] at l1
  obtain ⟨x2, r2⟩ := q2
  cases r2 using Rp.elimInt with
  | int u =>
  have hk2 : k < 2 ^ 63 := by
    have h1 : 1 ≤ ds.length := by cases ds with | nil => exact absurd rfl hne | cons _ _ => simp
    have : 1 * k.toNat ≤ ds.length * k.toNat := Nat.mul_le_mul_right _ h1
    (first | lia | omega)
  refine wpAny_binaryOp_repeat_ref (T := "list") (U := "int") (by decide) ⟨_, e1, rfl⟩ (fun s' => typeIs_int s' k u) noFill_list_mul F.fills_int_mul F.slot_int_rmul repeat_list F.slot_int_index.lookup
    (call_meets F.slot_int_rmul (typeIs_int s2 k u) F.entry_int_rmul (F.args_int_rmul_2 _ _) (int___rmul___int_list k u a vs n) ⟨e1, rfl, ⟨_, e1, rfl⟩, call_meets F.slot_list_mul ⟨_, e1, rfl⟩ F.entry_list_mul (F.args_list_mul_2 _ _)
      (AutoListH.list___mul___list_int_3 a vs n k u (by simp [Builtin.List.listFitsIndex]; (first | lia | omega)) (by rw [l1]; (first | lia | omega)) (by simp [Builtin.List.listTooLong, sizeLine, l1]; (first | lia | omega))) ⟨e1, ?_⟩⟩)
  refine ⟨s2, _, _, _, q1.1.trans x2, Ext.push s2 _ s2.toks, rfl, Nat.le_refl _, Heap.get?_push_size _ rfl, grow_at ((t.ext q1.1).ext x2) (Ext.push s2 _ s2.toks) (Nat.le_refl _) ?_⟩
  have hnv : vs.isEmpty = false := by
    cases hv : vs.isEmpty with
    | false => rfl
    | true => rw [Array.isEmpty_iff] at hv; subst hv; cases ds with | nil => exact absurd rfl hne | cons _ _ => simp at l1
  rw [hnv]
  have := foldl_app vs.toList k.toNat #[]
  simp only [Array.toArray_toList, List.nil_append] at this
  simp only [Bool.false_eq_true, if_false]
  rw [this]
  exact r1.rep _

theorem W_assignF {x : Str} {p pos : Pos} {e : Expr} {ds : List D} {rest : List Stmt} (h : EvF c ρ e ds) (hx : Storable c x) (hq : ∀ a, W c (upd ρ x (OL c.w a ds)) rest Q) (hs : swapsWith e (some (.Name x p)) pos.line c.env = pure false := by rfl) :
    W c ρ (.Assign [.Name x p] e pos :: rest) Q := W_cons fun μ s t => by
  refine wpAny_Assign_Name (wpAny_mono (h μ s t) (fun v s' q => ?_) fun _ _ x => x) hs
  obtain ⟨s₁, a, vs, n, x1, x2, rfl, ha, e1, r⟩ := q
  have t1 := t.ext x1
  have t2 := t1.grow x2 ha ⟨_, e1⟩
  have mv1 := (t.mv x1).trans (Mv.grow (c := c) t1 x2 ha)
  refine wp_store t2 hx (Held_new t1 ha olR_stable) ?_ fun s3 t' mv => ⟨Out.next _, _, hq a, ⟨rfl, t'⟩, mv1.trans mv⟩
  exact ⟨rfl, vs, n, e1, r⟩

theorem Op1.lenP {P : VP} {ds : List D} (hz : ds.length < 9223372036854775808) (k : ∀ μ h v, P μ h v → lsP c.w ds μ h v) : Op1 c ρ (fun v => call (.builtin "len") [v]) P (isD c.w (.int ds.length)) := fun μ s v t r => by
  obtain ⟨a, vs, n, rfl, e, r⟩ := k _ _ _ r
  have hl : vs.size = ds.length := by rw [← r.length]; simp
  refine len_list ⟨_, e, rfl, n, rfl⟩ (by rw [hl]; (first | lia | omega)) ⟨Ext.toks s _, ?_⟩
  rw [hl]; exact .int _ _
theorem Op2.itemP {value slice : Expr} {P : VP} {ds : List D} {k : Int} {d : D} (kp : ∀ μ h v, P μ h v → lsP c.w ds μ h v) (hs : noSlice slice = true) (h0 : 0 ≤ k) (hk : k < 2 ^ 63) (hd : ds[k.toNat]? = some d) : Op2 c ρ (fun o i => subscriptTail value slice o i) P (isD c.w (.int k)) (isD c.w d) := fun μ s v u t r r' => by
  cases r' using Rp.elimInt with
  | int tk =>
    obtain ⟨a, vs, n, rfl, e, r⟩ := kp _ _ _ r
    obtain ⟨x, h1, h2⟩ := r.get hd
    have hl : s.heap.IsList a vs := ⟨_, e, rfl, n, rfl⟩
    exact tail_any hl.typeIs slot_list_getitem.lookup (wpAny_getItem_list hl h0 hk (by simpa using h1) ⟨.refl _, h2⟩) (sub_plain hs _ _)
theorem Op1.tupP {P : VP} {ds : List D} (k : ∀ μ h v, P μ h v → lsP c.w ds μ h v) (hz : ds.length ≤ 1000) : Op1 c ρ (fun v => call (.type "tuple") [v]) P (isD c.w (.tup ds)) := fun μ s v t r => by
  obtain ⟨a, vs, n, rfl, e, r⟩ := k _ _ _ r
  have hl : vs.size = ds.length := by rw [← r.length]; simp
  refine call_tuple_list ⟨_, e, rfl, n, rfl⟩ (fun h' hk => ?_) (by rw [hl, sizeLine_eq]; (first | lia | omega))
  have x1 : Ext s { s with heap := h' } := Ext.of_keep (tk := s.toks) hk
  have x2 := Ext.push { s with heap := h' } { cls := .type "tuple", data := .seq vs } s.toks
  exact ⟨x1.trans x2, .tup (fresh_not (t.ext x1) (Nat.le_refl _)) (Heap.get?_push_size _ rfl) (RpL.ext t.mu72 (x1.trans x2) r)⟩
theorem Op2.max {a b : Int} : Op2 c ρ (fun v u => call (.builtin "max") [v, u]) (isD c.w (.int a)) (isD c.w (.int b)) (isD c.w (.int (if b > a then b else a))) := fun μ s v u t r r' => by
  cases r using Rp.elimInt; cases r' using Rp.elimInt
  refine max_two_ints t.room.1 fun h' tk hk => ⟨Ext.of_keep hk, ?_⟩
  split
  · exact .int _ _
  · exact .int _ _

theorem RpL.set {w : World} {h : Heap} {vs : List Value} {ds : List D} (r : RpL w μ h vs ds) {v : Value} {d : D} : ∀ (i : Nat), Rp w μ h v d → RpL w μ h (vs.set i v) (ds.set i d) := by
  induction ds generalizing vs with
  | nil => cases r; intro i _; exact .nil
  | cons x ds ih => cases r using RpL.elimCons with
    | cons a b => intro i hv; cases i with
      | zero => exact .cons hv b
      | succ i => exact .cons a (ih b i hv)
theorem wp_setItemL {A : Around} {E : Value → Shared → Prop} {s : Shared} {a : Addr} {vs : Array Value} {n : Nat} {k : Int} {u : Tok} {v : Value} {R : Unit → Shared → Prop} {prog : Program} {w : World} (ho : s.heap.get? a = some (lstO vs n)) (h0 : 0 ≤ k) (hn : k.toNat < vs.size ∧ k < 2 ^ 63)
    (h : ∀ h' n', h'.get? a = some (lstO (vs.setIfInBounds k.toNat v) n') → Heap.SameBut a s.heap h' → R () { s with heap := h' }) : wpAny (model prog w) A (setItem (.ref a) (.int k u) v) R E s := by
  have hl : s.heap.IsList a vs := ⟨_, ho, rfl, n, rfl⟩
  unfold setItem
  try with_reducible refine wpAny_holding ?_
  first | refine wpAny_bind (wpAny_pure ?_) | skip
  refine wpAny_bind (wpAny_sequenceKey hl.typeIs (by decide) ?_)
  refine wpAny_bind (wpAny_callSpecial?_slot (name := Str.ofString "__setitem__") hl.typeIs slot_list_setitem (wpAny_call_entry slot_list_setitem hl.typeIs entry_list_setitem ?_ (args_list_setitem _ _ _)))
  show wpAny _ _ (Builtin.List.listSubscript? (.int k u) >>= _) _ _ s
  refine wpAny_bind (wpAny_listSubscript_int (fitsIndex_of h0 hn.2) ?_)
  obtain ⟨j, rfl⟩ := Int.eq_ofNat_of_zero_le h0
  have hx' : vs[j]? = some vs[j] := Array.getElem?_eq_getElem hn.1
  show wpAny _ _ ((seqItemAt a j >>= fun r => pure (r.map (j, ·))) >>= _) _ _ s
  refine wpAny_bind (wpAny_bind (wpAny_seqItemAt ho rfl (wpAny_pure ?_)))
  rw [hx']
  show wpAny _ _ (setSeqItemAt a j v >>= _) _ _ s
  obtain ⟨e1, g1⟩ : ∃ e1, (s.heap.update a (Obj.mapSeq (·.setIfInBounds j v))).get? a = some (seqObj "list" (vs.setIfInBounds j v) e1) := ⟨_, get?_update_seq ho fun x => x.setIfInBounds j v⟩
  refine wpAny_bind (wpAny_setSeqItemAt ho rfl ?_)
  first
    | exact wpAny_bind (wpAny_pure (wpAny_pure ⟨.none, rfl, wpAny_pure (h _ _ g1 (Heap.SameBut.update ..))⟩))
    | exact wpAny_pure ⟨.none, rfl, wpAny_pure (h _ _ g1 (Heap.SameBut.update ..))⟩

theorem W_setitemL {x : Str} {p q pos : Pos} {ie e : Expr} {a : Addr} {l : List D} {k : Int} {d : D} {rest : List Stmt} (hx : ρ x = some (OL c.w a l)) (h : Ev c ρ e d) (hk : Ev c ρ ie (.int k)) (h0 : 0 ≤ k) (hlt : k.toNat < l.length) (hz : l.length ≤ 1000)
    (hq : W c (upd ρ x (OL c.w a (l.set k.toNat d))) rest Q) (hs : swapsWith e (some (.Subscript (.Name x p) ie q)) pos.line c.env = pure false := by rfl) : W c ρ (.Assign [.Subscript (.Name x p) ie q] e pos :: rest) Q := W_cons fun μ s t => by
  refine wpAny_Assign_Subscript (wpAny_mono (h μ s t) (fun v s1 q1 => ?_) fun _ _ x => x) hs
  have t1 := t.ext q1.1
  refine wpAny_mono (EvV_name hx μ s1 t1) (fun o s2 q2 => ?_) fun _ _ x => x
  have t2 := t1.ext q2.1
  refine wpAny_mono (hk μ s2 t2) (fun i s3 q3 => ?_) fun _ _ x => x
  have t3 := t2.ext q3.1
  have hv : Rp c.w μ s3.heap v d := Rp.ext t.mu72 q3.1 (Rp.ext t.mu72 q2.1 q1.2)
  have ho := SP.lv (c := c) hx μ s2 s3 o t2 q3.1 q2.2
  obtain ⟨rfl, vs, n, ho, hr⟩ := ho
  obtain ⟨q3a, q3b⟩ := q3
  cases q3b using Rp.elimInt with
  | int tk =>
    have hl : vs.size = l.length := by rw [← hr.length]; simp
    have hl3 : s3.heap.IsList a vs := ⟨_, ho, rfl, n, rfl⟩
    refine wp_setItemL ho h0 (by (first | lia | omega)) (fun h' n' hd' hs' => ?_)
    have hR : ∀ u, olR c.w a l μ s3.heap u → olR c.w a (l.set k.toNat d) μ h' u := fun u hu => by
      refine ⟨hu.1, _, n', hd', ?_⟩
      have hμ := ((t.frame.own x _ hx).2.2 a (by simp [OL, LV.adr])).1
      rw [Array.toList_setIfInBounds]
      refine RpL.keep (fun _ n => n) (fun b o n e => hs'.extBut b o (fun z => n (z ▸ hμ)) e) (RpL.set hr _ hv)
    obtain ⟨t4, mv4⟩ := t3.setOwn (tk := s3.toks) (R' := olR c.w a (l.set k.toNat d)) hx (by simp) (fun b o n e => hs'.extBut b o n e) ⟨_, hd'⟩ olR_stable hR
    exact ⟨Out.next _, μ, hq, ⟨rfl, t4⟩, (t.mv ((q1.1.trans q2.1).trans q3a)).trans mv4⟩

theorem allTrue_and {x y : Expr} {b1 b2 : Bool} {pos : Pos} (h1 : Tst c ρ x b1) (h2 : b1 = true → Tst c ρ y b2) : Tst c ρ (.BoolOp .And [x, y] pos) (b1 && b2) := fun μ s t =>
  isTrue_and (wpAny_mono (h1 μ s t) (fun r s1 q => by
    obtain ⟨q1, rfl⟩ := q
    cases r with
    | false => exact ⟨q1, rfl⟩
    | true =>
      refine isTrue_and (wpAny_mono (h2 rfl μ s1 (t.ext q1)) (fun r s2 q => ?_) fun _ _ x => x)
      obtain ⟨q2, rfl⟩ := q
      cases r with
      | false => exact ⟨q1.trans q2, rfl⟩
      | true => exact isTrue_and_nil ⟨q1.trans q2, rfl⟩) fun _ _ x => x)
theorem allTrue_or {x y : Expr} {b1 b2 : Bool} {pos : Pos} (h1 : Tst c ρ x b1) (h2 : b1 = false → Tst c ρ y b2) : Tst c ρ (.BoolOp .Or [x, y] pos) (b1 || b2) := fun μ s t =>
  isTrue_or (wpAny_mono (h1 μ s t) (fun r s1 q => by
    obtain ⟨q1, rfl⟩ := q
    cases r with
    | true => exact ⟨q1, rfl⟩
    | false =>
      refine isTrue_or (wpAny_mono (h2 rfl μ s1 (t.ext q1)) (fun r s2 q => ?_) fun _ _ x => x)
      obtain ⟨q2, rfl⟩ := q
      cases r with
      | true => exact ⟨q1.trans q2, rfl⟩
      | false => exact isTrue_or_nil ⟨q1.trans q2, rfl⟩) fun _ _ x => x)

theorem W_assign3 {x y z : Str} {p1 p2 p3 pos : Pos} {e : Expr} {d : D} {rest : List Stmt} (h : Ev c ρ e d) (hx : Storable c x) (hy : Storable c y) (hz : Storable c z) (hq : W c (upd (upd (upd ρ x (.fz d)) y (.fz d)) z (.fz d)) rest Q)
    (he : (assignEach [.Name x p1, .Name y p2, .Name z p3] c.env).map (·.2) = [assign (.Name x p1) c.env, assign (.Name y p2) c.env, assign (.Name z p3) c.env] := by rfl)
    (hw : swappedStores [.Name x p1, .Name y p2, .Name z p3] e c.env = pure none := by rfl) : W c ρ (.Assign [.Name x p1, .Name y p2, .Name z p3] e pos :: rest) Q := W_cons fun μ s t => by
  refine wpAny_Assign_three (wpAny_mono (h μ s t) (fun v s1 q => ?_) fun _ _ x => x) he hw
  have t1 := t.ext q.1
  refine wpAny_assign_Name (wp_store' t1 hx .fz q.2 fun s2 t2 mv2 k2 => ?_)
  have r2 := q.2.mv mv2
  refine wpAny_assign_Name (wp_store' t2 hy .fz r2 fun s3 t3 mv3 k3 => ?_)
  refine wpAny_assign_Name (wp_store' t3 hz .fz (r2.mv mv3) fun s4 t4 mv4 k4 => ?_)
  exact ⟨Out.next _, μ, hq, ⟨rfl, t4⟩, (t.mv q.1).trans (mv2.trans (mv3.trans mv4))⟩

theorem RpL.rev {w : World} {h : Heap} {vs : List Value} {ds : List D} (r : RpL w μ h vs ds) : RpL w μ h vs.reverse ds.reverse := by
  induction ds generalizing vs with
  | nil => cases r; exact .nil
  | cons d ds ih => cases r using RpL.elimCons with | cons p q => rw [List.reverse_cons, List.reverse_cons]; exact (ih q).append (.cons p .nil)
theorem wp_inOrderB : ∀ (xs : List Str) (vs : List Value) (ds : List D) (ρ : Loc) (s : Shared) (R : Unit → Shared → Prop), StM c μ ρ s → (∀ x ∈ xs, Storable c x) → RpL c.w μ s.heap vs ds → vs.length = xs.length →
    (∀ s', StM c μ (locOf ρ xs ds) s' → Mv c μ μ s s' → R () s') → wpAny (model PG c.w) c.A (assignInOrder (xs.map fun x => bindName c.env x) vs) R NoE s
  | [], vs, ds, ρ, s, R, t, _, r, hl, h => by
    have : vs = [] := List.length_eq_zero_iff.mp hl
    subst this; cases r
    exact wpAny_pure (h s t .refl)
  | x :: xs, vs, ds, ρ, s, R, t, hx, r, hl, h => by
    cases r with
    | nil => cases hl
    | @cons v vs d ds r1 r2 =>
      show wpAny _ _ (holding vs (bindName c.env x v) >>= fun _ => assignInOrder _ vs) R NoE s
      refine wpAny_bind (wpAny_holding (bindName_ (wp_store t (hx x List.mem_cons_self) .fz r1 fun s1 t1 mv => ?_)))
      exact wp_inOrderB xs vs ds _ s1 R t1 (fun y hy => hx y (List.mem_cons_of_mem _ hy)) (r2.mv mv) (by simpa using hl) fun s2 t2 mv2 => h s2 t2 (mv.trans mv2)
theorem W_swap {elts : List Expr} {e : Expr} {k : Nat} {tp pos : Pos} {names : List Str} {ds : List D} {rest : List Stmt} (h : Ev c ρ e (.tup ds)) (hl : ds.length = names.length) (hx : ∀ x ∈ names, Storable c x) (hq : W c (locOf ρ names.reverse ds.reverse) rest Q)
    (hs : swapsWithSole [.Tuple elts k tp] e pos.line c.env = pure false := by rfl) (hw : swappedStores [.Tuple elts k tp] e c.env = pure (some names) := by rfl) : W c ρ (.Assign [.Tuple elts k tp] e pos :: rest) Q := W_cons fun μ s t => by
  refine Assign_Tuple_swapped (names := names) (wpAny_mono (h μ s t) (fun v s1 q => ?_) fun _ _ x => x) hs hw
  obtain ⟨x1, r⟩ := q
  have t1 := t.ext x1
  cases r using Rp.elimTup with
  | @tup a vs n ha e r =>
    have hvl : vs.size = names.length := by rw [← Array.length_toList, r.length, hl]
    rw [← hvl]
    refine unpackItems_tuple t.room.1 ⟨_, e, rfl, n, rfl⟩ fun h' hk => ?_
    have x2 : Ext s1 { s1 with heap := h' } := Ext.of_keep (tk := s1.toks) fun b o e => hk b o (Nat.ne_of_lt (Heap.lt_size e)) e
    refine wp_inOrderB names.reverse vs.toList.reverse ds.reverse ρ _ _ (t1.ext x2) (fun x hx' => hx x (List.mem_reverse.mp hx')) ?_ (by rw [List.length_reverse, List.length_reverse, Array.length_toList, hvl]) fun s3 t3 mv3 => ⟨Out.next _, μ, hq, ⟨rfl, t3⟩, (t.mv (x1.trans x2)).trans mv3⟩
    exact RpL.rev (RpL.ext t.mu72 x2 r)
end
end Mine
end

noncomputable section -- MW
open PySem PyProof.Rows
set_option maxRecDepth 100000
namespace Mine

noncomputable def inP (w : World) (C : Addr) (l : List (Str × D)) : VP := fun μ h v => ∃ a dd, v = .ref a ∧ dd ≠ a ∧ (∃ o, h.get? a = some o ∧ (o.cls = .ref C ∧ o.dict = some dd ∧ ∀ k, o.data ≠ .cls k)) ∧ ∃ kvs, h.Ns1 dd (valueAt kvs) ∧ RpK w μ h kvs l

section
variable {c : Cx} {ρ : Loc} {μ : Addr → Prop} {s s' : Shared} {Q : Out → Prop}

theorem Ev_attrP {o : Expr} {name : Str} {pos : Pos} {P : VP} {C N : Addr} {tab : List (Str × Option Value)} {l : List (Str × D)} {d : D} (h : EvV c ρ o P) (k : ∀ μ h v, P μ h v → inP c.w C l μ h v) (hc : (C, N, tab) ∈ clsTab) (hg : (Str.ofString "__getattribute__", none) ∈ tab) (hn : (name, none) ∈ tab)
    (hB : typeLookup (.type "object") name = pure none) (hd : lookD l name = some d)
    (he : eval (.Attribute o name pos) c.env = (do
      let o' ← eval o c.env
      standAt pos.atName
      let r ← holding [o'] (getAttr o' name true)
      letTemporaryGo o o' r
      pure r) := by with_unfolding_all rfl) : Ev c ρ (.Attribute o name pos) d := fun μ s t => by
  refine Attribute_any_ (wpAny_mono (h μ s t) (fun v s1 q => ?_) fun _ _ x => x) he
  obtain ⟨x1, r⟩ := q
  obtain ⟨a, dd, rfl, hne, ⟨o, e, ho⟩, kvs, ns, rk⟩ := k _ _ _ r
  have t1 := t.ext x1
  obtain ⟨v', hv, rv⟩ := rk.look hd
  obtain ⟨mN, X, hX⟩ := t1.g.cls _ hc
  refine cls_elim X fun nm q bs sn sub col dd k0 k1 k2 k3 k5 hC => ?_
  obtain ⟨hp, g, dr, tk, os⟩ := s1
  exact load_attr hC X.ns (hX _ hg) (hX _ hn) hB (inst_of e ho hne ns) hv rv.handed ⟨x1.trans (Ext.toks ⟨hp, g, dr, tk, os⟩ (tk + 1)), rv⟩

theorem EvV_part {x : Str} {as : List Addr} {R : VP} {e : Expr} {p : Addr} {P : VP} (hx : ρ x = some (.own as R)) (h : Ev c ρ e (.adr p)) (hp : ∀ μ h v, R μ h v → P μ h (.ref p)) : EvV c ρ e P := fun μ s t =>
  wpAny_mono (h μ s t) (fun v s' q => by
    obtain ⟨x1, r⟩ := q
    cases r
    obtain ⟨m, hn, hv⟩ := (t.ext x1).frame.var
    obtain ⟨ok, u, va, ru⟩ := hv x _ hx
    exact ⟨x1, hp _ _ _ ru⟩) fun _ _ x => x
theorem Tst_listP {e : Expr} {P : VP} {ds : List D} (h : EvV c ρ e P) (k : ∀ μ h v, P μ h v → lsP c.w ds μ h v) (hz : ds.length < 9223372036854775808)
    (he : isTrue e c.env (eval e c.env) = (do let v ← eval e c.env; standAt e.pos; holding [v] (truthy v)) := by rfl) : Tst c ρ e (decide (0 < ds.length)) := fun μ s t =>
  wpAny_isTrue_value (wpAny_mono (h μ s t) (fun v s1 q => by
    obtain ⟨q1, q2⟩ := q
    obtain ⟨a, vs, n, rfl, e, r⟩ := k _ _ _ q2
    have hl : vs.size = ds.length := by rw [← r.length]; simp
    refine wpAny_truthy_list ⟨_, e, rfl, n, rfl⟩ (by rw [hl]; (first | lia | omega)) ?_
    exact ⟨q1.trans (Ext.toks s1 _), by simp only [Array.isEmpty, hl]; cases ds.length <;> simp⟩) fun _ _ x => x) he

theorem StM.callS {x : Str} {as : List Addr} {R R' : VP} (t : StM c μ ρ s) (hx : ρ x = some (.own as R)) (e : ExtS as s s') (hst : Stable as R') (hR : ∀ v, R μ s.heap v → R' μ s'.heap v) : StM c μ (upd ρ x (.own as R')) s' ∧ Mv c μ μ s s' := by
  obtain ⟨hok, hndp, hown⟩ := t.frame.own x _ hx
  have hasB : ∀ b ∈ as, Big b := fun b hb => (hown b hb).2.2.2.2
  have hasM : ∀ b ∈ as, μ b := fun b hb => (hown b hb).1
  have n72 : ∀ b, Big b → b ≠ 72 := fun b hb z => absurd (z ▸ hb) (by decide)
  refine ⟨⟨t.room, t.g.mod (fun b o hb' n _ ee => e.keep b o ee n fun z => Nat.not_lt.mpr (hasB b z) hb') e.tab, fun b o ee n n' => e.keep b o (t.keep b o ee n n') n' (fun z => (hown b z).2.2.2.1.elim (fun q => Nat.not_lt.mpr q (Heap.lt_size ee)) n), e.os.trans t.os, fun q => e.bare (t.bare q), t.mu0, t.mu0lt, t.mu1, ?_, t.mu72, t.ge, t.pr72, t.prM, ?_⟩,
    ⟨fun b o n ee => e.keep b o ee (fun z => n.elim (fun n => n (z ▸ t.mu72)) fun n => t.pr72 (z ▸ n)) (fun z => n.elim (fun n => n (hasM b z)) fun n => (hown b z).2.2.1 n), fun _ _ _ n => n⟩⟩
  · intro b q
    by_cases h : b ∈ as
    · exact e.live b h
    · by_cases h72 : b = 72
      · subst h72
        obtain ⟨ps, _, y⟩ := e.tab
        exact ⟨_, y.2⟩
      · obtain ⟨o, ee⟩ := t.live b q
        exact ⟨o, e.keep b o ee h72 h⟩
  · have f := t.frame
    have hfp : ∀ b ∈ c.fp, b ∉ as := fun b hb z => (hown b z).2.1 hb
    have kfp : ∀ b o, b ∈ c.fp → s.heap.get? b = some o → s'.heap.get? b = some o := fun b o hb ee => e.keep b o ee (n72 b (f.big b hb)) (hfp b hb)
    refine ⟨f.kind, f.glob, f.blt, f.muL, f.baseL, f.cellsM, fun y cl ee => let ⟨u, q⟩ := f.cells y cl ee; ⟨u, IsCell.at q fun o z => kfp cl o (List.mem_cons_of_mem _ (List.mem_map.mpr ⟨_, mem_of_lookup ee, rfl⟩)) z⟩,
      f.cellK, f.apart, f.cellsL, f.big, f.prL, ?_, ?_, ?_⟩
    · obtain ⟨m, hn, hv⟩ := f.var
      refine ⟨m, hn.at' fun o ee => kfp _ o List.mem_cons_self ee, fun y l ee => ?_⟩
      have move : ∀ u, VarAt c.env m s.heap y u → VarAt c.env m s'.heap y u := fun u va => by
        rcases va with q | ⟨k, cl, e1, e2⟩
        · exact .inl q
        · exact .inr ⟨k, cl, e1, IsCell.at e2 fun o z => kfp cl o (List.mem_cons_of_mem _ (List.mem_map.mpr ⟨_, mem_of_lookup e1, rfl⟩)) z⟩
      unfold upd at ee
      by_cases hy : y = x
      · rw [if_pos hy] at ee; cases ee; subst hy
        obtain ⟨ok, u, va, r⟩ := hv y _ hx
        exact ⟨ok, u, move u va, hR u r⟩
      · rw [if_neg hy] at ee
        obtain ⟨ok, u, va, r⟩ := hv y l ee
        refine ⟨ok, u, move u va, r.keep (f.own y l ee).1 (fun _ _ _ n => n) fun b o z q => e.keep b o q ?_ ?_⟩
        · rintro rfl
          exact z.elim (fun z => z t.mu72) fun z => n72 72 ((f.own y l ee).2.2 72 z).2.2.2.2 rfl
        · exact fun w => z.elim (fun z => z (hasM b w)) fun z => f.sep y x l _ ee hx hy b z w
    · intro y l ee
      unfold upd at ee
      by_cases hy : y = x
      · rw [if_pos hy] at ee; cases ee; exact ⟨hst, hndp, hown⟩
      · rw [if_neg hy] at ee; exact f.own y l ee
    · intro y z k j ey ez hne' b hb
      unfold upd at ey ez
      by_cases hy : y = x
      · rw [if_pos hy] at ey; cases ey
        rw [if_neg (fun e => hne' (hy.trans e.symm))] at ez
        exact f.sep x z _ j hx ez (fun e => hne' (hy.trans e)) b hb
      · rw [if_neg hy] at ey
        by_cases hz : z = x
        · rw [if_pos hz] at ez; cases ez
          exact f.sep y x k _ ey hx hy b hb
        · rw [if_neg hz] at ez
          exact f.sep y z k j ey ez hne' b hb

noncomputable def EvO (c : Cx) (ρ : Loc) (e : Expr) (x : Str) (l : LV) (d : D) : Prop :=
  ∀ μ s, StM c μ ρ s → wpAny (model PG c.w) c.A (eval e c.env) (fun v s' => StM c μ (upd ρ x l) s' ∧ Mv c μ μ s s' ∧ Rp c.w μ s'.heap v d) NoE s
theorem EvO.eq {e : Expr} {x : Str} {l l' : LV} {d d' : D} (h : EvO c ρ e x l d) (h1 : l = l') (h2 : d = d') : EvO c ρ e x l' d' := h1 ▸ h2 ▸ h
theorem W_assignO {x y : Str} {p pos : Pos} {e : Expr} {l : LV} {d : D} {rest : List Stmt} (h : EvO c ρ e x l d) (hy : Storable c y) (hq : W c (upd (upd ρ x l) y (.fz d)) rest Q) (hs : swapsWith e (some (.Name y p)) pos.line c.env = pure false := by rfl) :
    W c ρ (.Assign [.Name y p] e pos :: rest) Q := W_cons fun μ s t =>
  wpAny_Assign_Name (wpAny_mono (h μ s t) (fun v s1 q => wp_store q.1 hy .fz q.2.2 fun s' t' mv => ⟨Out.next _, μ, hq, ⟨rfl, t'⟩, q.2.1.trans mv⟩) fun _ _ x => x) hs
theorem W_exprO {x : Str} {pos : Pos} {e : Expr} {l : LV} {rest : List Stmt} (h : EvO c ρ e x l .none) (hq : W c (upd ρ x l) rest Q) (hi : interactive c.env = false := by rfl) (hs : swapsWith e none pos.line c.env = pure false := by rfl) :
    W c ρ (.Expr e pos :: rest) Q := W_cons fun μ s t =>
  wpAny_Expr (wpAny_mono (h μ s t) (fun v s1 q => by
    obtain ⟨q1, q2, q3⟩ := q
    cases q3
    exact (⟨Out.next _, μ, hq, ⟨rfl, q1⟩, q2⟩ : Ends c μ s (After c rest Q) .next s1)) fun _ _ x => x) hi hs
theorem W_retO {x : Str} {pos : Pos} {e : Expr} {l : LV} {d : D} {rest : List Stmt} (h : EvO c ρ e x l d) (hq : Q (.ret d (upd ρ x l))) : W c ρ (.Return (some e) pos :: rest) Q := W_cons fun μ s t =>
  wpAny_Return_some (wpAny_mono (h μ s t) (fun v s1 q => ⟨Out.ret d _, μ, hq, ⟨v, rfl, q.1, q.2.2⟩, q.2.1⟩) fun _ _ x => x)

theorem wp_ownMeth {x name : Str} {C N f : Addr} {fd : FuncData} {tab : List (Str × Option Value)} {l : List (Str × D)} {v : Value} {P : VP} {pl : Sem Bool} {Q' : Value × List Value → Shared → Prop} (t : StM c μ ρ s) (r : P μ s.heap v) (k : ∀ μ h v, P μ h v → inP c.w C l μ h v)
    (hc : (C, N, tab) ∈ clsTab) (hg : (Str.ofString "__getattribute__", none) ∈ tab) (hg' : (Str.ofString "__getattr__", none) ∈ tab) (hn : (name, some (.ref f)) ∈ tab) (hf : (f, fd) ∈ fnTable) (hB : typeLookup (.type "object") name = pure none) (hl : lookD l name = none)
    (hq : Q' (.ref f, [v]) s) : wpAny (model PG c.w) c.A (getMethod v name pl) Q' NoE s := by
  obtain ⟨a, dd, rfl, hne, ⟨o, e, ho⟩, kvs, ns, rk⟩ := k _ _ _ r
  obtain ⟨mN, X, hX⟩ := t.g.cls _ hc
  refine cls_elim X fun nm q bs sn sub col dd k0 k1 k2 k3 k5 hC => ?_
  have hfo := (t.g.fns _ hf).1
  obtain ⟨hp, g, dr, tk, os⟩ := s
  exact method_of hC X.ns (hX _ hg) (hX _ hg') (hX _ hn) hfo rfl hB (inst_of e ho hne ns) (rk.lookNone hl) hq

theorem EvO_meth0 {x name : Str} {np apos pos : Pos} {as : List Addr} {R R' : VP} {v0 : Value} {C N f : Addr} {fd : FuncData} {tab : List (Str × Option Value)} {l : List (Str × D)} {n : Nat} {d : D} {pl : Sem Bool} (hx : ρ x = some (.own as R))
    (k : ∀ μ h v, R μ h v → inP c.w C l μ h v) (hv : ∀ μ h v, R μ h v → v = v0) (hst : Stable as R')
    (hc : (C, N, tab) ∈ clsTab) (hg : (Str.ofString "__getattribute__", none) ∈ tab) (hg' : (Str.ofString "__getattr__", none) ∈ tab) (hn : (name, some (.ref f)) ∈ tab) (hf : (f, fd) ∈ fnTable) (hB : typeLookup (.type "object") name = pure none) (hl : lookD l name = none)
    (hF : FnO c.w (.ref f) n as R R' [] d) (hr : n ≤ c.rk)
    (he : eval (.Call (.Attribute (.Name x np) name apos) [] [] pos) c.env = (do
      let ov ← eval (.Name x np) c.env
      standAt apos.atName
      let (f, first) ← holding [ov] (getMethod ov name pl)
      callWith pos f first (backTo pos (starEach [] c.env)) []) := by rfl) : EvO c ρ (.Call (.Attribute (.Name x np) name apos) [] [] pos) x (.own as R') d := fun μ s t => by
  refine MethodCall_ (pl := pl) (wpAny_mono (EvV_name hx μ s t) (fun v s1 q1 => ?_) fun _ _ x => x) he
  have t1 := t.ext q1.1
  have q2 : R μ s1.heap v := q1.2
  refine wp_ownMeth (x := x) t1 q2 k hc hg hg' hn hf hB hl ?_
  refine callWith_meth0 (o := fnObj fd) (fd := fd) rfl (t1.g.fns _ hf).1 ?_
  obtain ⟨_, hnd, hown⟩ := t1.frame.own x _ hx
  refine wpAny_mono (hF.wp (vs := []) (t1.room.le hr) t1.g t1.muOk hnd (fun a ha => ⟨(hown a ha).1, (hown a ha).2.2.2.2⟩) q2 .nil) (fun r s2 q => ?_) fun _ _ x => x
  obtain ⟨e2, r2, rr⟩ := q
  have hvv := hv _ _ _ q2
  obtain ⟨t2, mv2⟩ := t1.callS hx e2 hst fun u hu => by rw [hv _ _ _ hu, ← hvv]; exact r2
  exact ⟨t2, (t.mv q1.1).trans mv2, rr⟩
theorem EvO_meth1 {x name : Str} {e1 : Expr} {d1 : D} {np apos pos : Pos} {as : List Addr} {R R' : VP} {v0 : Value} {C N f : Addr} {fd : FuncData} {tab : List (Str × Option Value)} {l : List (Str × D)} {n : Nat} {d : D} {pl : Sem Bool} (hx : ρ x = some (.own as R)) (h1 : Ev c ρ e1 d1)
    (k : ∀ μ h v, R μ h v → inP c.w C l μ h v) (hv : ∀ μ h v, R μ h v → v = v0) (hst : Stable as R')
    (hc : (C, N, tab) ∈ clsTab) (hg : (Str.ofString "__getattribute__", none) ∈ tab) (hg' : (Str.ofString "__getattr__", none) ∈ tab) (hn : (name, some (.ref f)) ∈ tab) (hf : (f, fd) ∈ fnTable) (hB : typeLookup (.type "object") name = pure none) (hl : lookD l name = none)
    (hF : FnO c.w (.ref f) n as R R' [d1] d) (hr : n ≤ c.rk)
    (he : eval (.Call (.Attribute (.Name x np) name apos) [e1] [] pos) c.env = (do
      let ov ← eval (.Name x np) c.env
      standAt apos.atName
      let (f, first) ← holding [ov] (getMethod ov name pl)
      callWith pos f first (backTo pos (starEach [e1] c.env)) []) := by rfl) (hst1 : starEach [e1] c.env = [(false, eval e1 c.env)] := by rfl) : EvO c ρ (.Call (.Attribute (.Name x np) name apos) [e1] [] pos) x (.own as R') d := fun μ s t => by
  refine MethodCall_ (pl := pl) (wpAny_mono (EvV_name hx μ s t) (fun v s1 q1 => ?_) fun _ _ x => x) he
  have t1 := t.ext q1.1
  have q2 : R μ s1.heap v := q1.2
  refine wp_ownMeth (x := x) t1 q2 k hc hg hg' hn hf hB hl ?_
  refine callWith_meth' (o := fnObj fd) (fd := fd) rfl (wpAny_mono (EvL_cons (pos := pos) h1 EvL_nil hst1 μ s1 t1) (fun vs s2 q3 => ?_) fun _ _ x => x) hst1
  have t2 := t1.ext q3.1
  refine ⟨(t2.g.fns _ hf).1, ?_⟩
  have q2' : R μ s2.heap v := SP.lv (c := c) hx μ s1 s2 v t1 q3.1 q2
  obtain ⟨_, hnd, hown⟩ := t2.frame.own x _ hx
  refine wpAny_mono (hF.wp (vs := vs) (t2.room.le hr) t2.g t2.muOk hnd (fun a ha => ⟨(hown a ha).1, (hown a ha).2.2.2.2⟩) q2' q3.2) (fun r s3 q => ?_) fun _ _ x => x
  obtain ⟨e2, r2, rr⟩ := q
  have hvv := hv _ _ _ q2'
  obtain ⟨t3, mv3⟩ := t2.callS hx e2 hst fun u hu => by rw [hv _ _ _ hu, ← hvv]; exact r2
  exact ⟨t3, ((t.mv q1.1).trans (t1.mv q3.1)).trans mv3, rr⟩
end
end Mine
end

noncomputable section -- MX
open PySem PyProof.Rows
set_option maxRecDepth 100000
namespace Mine

noncomputable def cutB (o : Option Int) (dflt n : Nat) : Nat := match o with
  | none => dflt
  | some i => min i.toNat n
noncomputable def cutL {α : Type} (l : List α) (lo hi : Option Int) : List α := (l.take (cutB hi l.length l.length)).drop (cutB lo 0 l.length)
noncomputable def nn (o : Option Int) : Prop := ∀ i, o = some i → 0 ≤ i

theorem range_pick {α : Type} (l : List α) (a b : Nat) (hb : b ≤ l.length) : (List.range (b - a)).filterMap (fun k => l[a + k]?) = (l.take b).drop a := by
  induction b with
  | zero => simp
  | succ b ih =>
    by_cases hab : a ≤ b
    · have hs : b + 1 - a = (b - a) + 1 := by (first | lia | omega)
      have hlt : b < l.length := by (first | lia | omega)
      rw [hs, List.range_succ, List.filterMap_append, ih (by (first | lia | omega)), List.take_add_one, List.drop_append_of_le_length (by rw [List.length_take]; (first | lia | omega))]
      simp [show a + (b - a) = b by (first | lia | omega), hlt]
    · have h1 : b + 1 - a = 0 := by (first | lia | omega)
      rw [h1]
      have : (l.take (b + 1)).length ≤ a := by rw [List.length_take]; (first | lia | omega)
      rw [List.drop_of_length_le this]; rfl

theorem sliceRange_one (a b : Nat) : sliceRange (a : Int) (b : Int) 1 = (List.range (b - a)).map fun k => a + k := by
  unfold sliceRange
  have h1 : (1 : Int) > 0 := by (first | lia | omega)
  simp only [h1, if_true, Int.ediv_one, Int.one_mul]
  have h2 : (if (a : Int) < b then (b : Int) - a + 1 - 1 else 0).toNat = b - a := by split <;> (first | lia | omega)
  rw [h2]
  apply List.map_congr_left
  intro k _
  (first | lia | omega)

theorem strIdx {lo hi : Option Int} (h1 : nn lo) (h2 : nn hi) (n : Nat) : Builtin.Str.strSliceIndices lo hi 1 n = (List.range (cutB hi n n - cutB lo 0 n)).map fun k => cutB lo 0 n + k := by
  unfold Builtin.Str.strSliceIndices
  have h0 : (1 : Int) > 0 := by (first | lia | omega)
  simp only [h0, if_true]
  have c : ∀ (o : Option Int) (dn : Nat), nn o → (match o with | none => (dn : Int) | some i => max 0 (min (if i < 0 then i + (n : Int) else i) (n : Int))) = ((cutB o dn n : Nat) : Int) := by
    intro o dn ho
    cases o with
    | none => rfl
    | some i => have := ho i rfl; unfold cutB; dsimp only; rw [if_neg (by (first | lia | omega))]; (first | lia | omega)
  have e1 := c lo 0 h1
  have e2 := c hi n h2
  simp only [Int.natCast_zero] at e1
  have := sliceRange_one (cutB lo 0 n) (cutB hi n n)
  rw [← this, ← e1, ← e2]
  rfl

theorem cutB_le (o : Option Int) (n : Nat) : cutB o n n ≤ n := by unfold cutB; split <;> (first | lia | omega)

theorem slice_S {cs : List Nat} {lo hi : Option Int} (h1 : nn lo) (h2 : nn hi) : Txt.slice (S cs) lo hi = S (cutL cs lo hi) := by
  unfold Txt.slice
  have hl : (S cs).length = cs.length := S_length cs
  rw [hl, strIdx h1 h2]
  have hp : (((List.range (cutB hi cs.length cs.length - cutB lo 0 cs.length)).map fun k => cutB lo 0 cs.length + k).filterMap ((S cs).cps[·]?)) = cutL cs lo hi := by
    rw [List.filterMap_map]
    have : ((fun x => (S cs).cps[x]?) ∘ fun k => cutB lo 0 cs.length + k) = fun k => cs[cutB lo 0 cs.length + k]? := by
      funext k; simp [S]
    rw [this]
    exact range_pick cs _ _ (cutB_le hi cs.length)
  rw [hp]
  split
  · rename_i hw
    simp only [beq_self_eq_true, Bool.true_and, List.length_map, List.length_range, beq_iff_eq] at hw
    have e1 : cutB lo 0 cs.length = 0 ∨ cs.length = 0 := by have := cutB_le hi cs.length; (first | lia | omega)
    have e2 : cutB hi cs.length cs.length = cs.length := by have := cutB_le hi cs.length; (first | lia | omega)
    unfold cutL
    rw [e2, List.take_length]
    rcases e1 with e | e
    · rw [e, List.drop_zero]
    · have : cs = [] := List.length_eq_zero_iff.mp e
      subst this; simp
  · rfl

section
variable {c : Cx} {ρ : Loc} {μ : Addr → Prop} {s s' : Shared} {Q : Out → Prop}

noncomputable def Pt (c : Cx) (ρ : Loc) (e : Option Expr) (l : Option Int) : Prop := ∀ μ s, StM c μ ρ s → wpAny (model PG c.w) c.A (evalPart e c.env) (fun v s' => Ext s s' ∧ IsPart v l) NoE s
theorem Pt_none : Pt c ρ none none := fun μ s t => wpAny_pure ⟨.refl s, .none⟩
theorem Pt_some {e : Expr} {i : Int} (h : Ev c ρ e (.int i)) : Pt c ρ (some e) (some i) := fun μ s t => by
  rw [evalPart_some]
  exact wpAny_mono (h μ s t) (fun v s' q => by obtain ⟨x, r⟩ := q; cases r using Rp.elimInt; exact ⟨x, .int _ _⟩) fun _ _ x => x

theorem EvV_slice {value : Expr} {lower upper : Option Expr} {p pos : Pos} {lo hi : Option Int} {P1 P : VP} {T id : String} (h1 : EvV c ρ value P1) (hl : Pt c ρ lower lo) (hu : Pt c ρ upper hi) (hp : SP c ρ P1) (hT : typeLookup (.type T) "__getitem__" = pure (some (.builtin id)))
    (ho : ∀ μ s v sl a b, StM c μ ρ s → P1 μ s.heap v → s.heap.IsSliceOf sl a b .none → IsPart a lo → IsPart b hi → s.TypeIs v T ∧ wpAny (model PG c.w) c.A (getItem v (.ref sl)) (fun r s' => Ext s s' ∧ P μ s'.heap r) NoE s)
    (ht : ∀ o r, letTemporaryGo value o r = pure () := by intro _ _; rfl) : EvV c ρ (.Subscript value (.Slice lower upper none p) pos) P := fun μ s t =>
  wpAny_Subscript_Slice hT (wpAny_mono (h1 μ s t) (fun v s1 q1 => wpAny_Slice (wpAny_mono (hl μ s1 (t.ext q1.1)) (fun a s2 q2 => wpAny_mono (hu μ s2 ((t.ext q1.1).ext q2.1)) (fun b s3 q3 => by
    have x13 := q2.1.trans q3.1
    have x4 := Ext.push s3 { cls := .type "slice", data := .fields #[a, b, .none] } s3.toks
    have t3 := (t.ext q1.1).ext x13
    refine wpAny_pure ?_
    obtain ⟨g1, g2⟩ := ho μ _ v _ a b (t3.ext x4) (hp _ _ _ _ (t.ext q1.1) (x13.trans x4) q1.2) ⟨_, Heap.get?_push_size _ rfl, rfl, rfl⟩ q2.2 q3.2
    exact ⟨g1, wpAny_mono g2 (fun r s5 q5 => ⟨(q1.1.trans (x13.trans x4)).trans q5.1, q5.2⟩) fun _ _ x => x⟩) fun _ _ x => x) fun _ _ x => x)) fun _ _ x => x) ht

theorem Ev_sliceS {value : Expr} {lower upper : Option Expr} {p pos : Pos} {lo hi : Option Int} {cs : List Nat} (h1 : Ev c ρ value (.str (S cs))) (hl : Pt c ρ lower lo) (hu : Pt c ρ upper hi) (n1 : nn lo) (n2 : nn hi) (hz : cs.length ≤ 1000000)
    (ht : ∀ o r, letTemporaryGo value o r = pure () := by intro _ _; rfl) : Ev c ρ (.Subscript value (.Slice lower upper none p) pos) (.str (S (cutL cs lo hi))) :=
  EvV_slice h1 hl hu (.isD _) F.slot_str_getitem.lookup (fun μ s v sl a b t r hs ha hb => by
    cases r using Rp.elimStr with
    | str tk =>
    refine ⟨typeIs_str _ _ _, ?_⟩
    have key : ∀ (l u : Option (Int × Tok)), l.map (·.1) = lo → u.map (·.1) = hi → s.heap.IsSlice sl l u none → wpAny (model PG c.w) c.A (getItem (.str (S cs) tk) (.ref sl)) (fun r s' => Ext s s' ∧ Rp c.w μ s'.heap r (.str (S (cutL cs lo hi)))) NoE s := by
      intro l u e1 e2 hsl
      refine wpAny_getItem_str_slice hsl rfl (post_val_or_str ⟨Nat.le_trans (Txt.slice_le _ _ _) (by rw [S_length, sizeLine_eq]; (first | lia | omega)), fun t' k => ?_⟩)
      show Ext s { s with toks := k } ∧ Rp c.w μ s.heap (.str (Txt.slice (S cs) (l.map (·.1)) (u.map (·.1))) t') _
      rw [e1, e2, slice_S n1 n2]
      exact ⟨Ext.toks s k, .str _ _⟩
    cases ha with
    | none => cases hb with
      | none => exact key none none rfl rfl hs
      | int j tj => exact key none (some (j, tj)) rfl rfl hs
    | int i ti => cases hb with
      | none => exact key (some (i, ti)) none rfl rfl hs
      | int j tj => exact key (some (i, ti)) (some (j, tj)) rfl rfl hs) ht

theorem pick_cut {vs : Array Value} {lo hi : Option Int} (n1 : nn lo) (n2 : nn hi) : (slicePick vs lo hi none).toList = cutL vs.toList lo hi := by
  unfold slicePick
  have h0 : ((none : Option Int).getD 1 : Int) > 0 := by decide
  have cl : ∀ (o : Option Int) (dn : Nat), nn o → (match o with | none => (dn : Int) | some i => max 0 (min (if i < 0 then i + (vs.size : Int) else i) (vs.size : Int))) = ((cutB o dn vs.size : Nat) : Int) := by
    intro o dn ho
    cases o with
    | none => rfl
    | some i => have := ho i rfl; unfold cutB; dsimp only; rw [if_neg (by (first | lia | omega))]; (first | lia | omega)
  have e1 := cl lo 0 n1
  have e2 := cl hi vs.size n2
  simp only [Int.natCast_zero] at e1
  have : sliceBounds lo hi none vs.size = (((cutB lo 0 vs.size : Nat) : Int), ((cutB hi vs.size vs.size : Nat) : Int), 1) := by
    unfold sliceBounds
    rw [← e1, ← e2]
    simp only [h0, if_true]
    rfl
  rw [this]
  show ((sliceRange _ _ 1).filterMap _) = _
  rw [sliceRange_one, List.filterMap_map]
  have e3 : ((fun x => vs[x]?) ∘ fun k => cutB lo 0 vs.size + k) = fun k => vs.toList[cutB lo 0 vs.size + k]? := by
    funext k; simp
  have := range_pick vs.toList (cutB lo 0 vs.size) (cutB hi vs.size vs.size) (by rw [Array.length_toList]; exact cutB_le _ _)
  unfold cutL
  rw [Array.length_toList, ← this, ← e3]
theorem RpL.cut {w : World} {h : Heap} {vs : List Value} {ds : List D} (r : RpL w μ h vs ds) (lo hi : Option Int) : RpL w μ h (cutL vs lo hi) (cutL ds lo hi) := by
  unfold cutL
  rw [r.length]
  exact (r.take _).drop _
theorem getItem_tup4 {M : Model} {prog : Program} {w : World} {A : Around} {E : Value → Shared → Prop} {s : Shared} {t sl : Addr} {items : Array Value} {u : Tok} {Q : Value → Shared → Prop} (ht : IsTup s.heap t items) (hs : s.heap.IsSliceOf sl .none (.int 4 u) .none) (h5 : items.size = 5)
    (h : Q (.ref s.heap.objs.size) { s with heap := s.heap.push { cls := .type "tuple", data := .seq (items.toList.take 4).toArray } }) : wpAny (model prog w) A (getItem (.ref t) (.ref sl)) Q E s := by
  obtain ⟨os, hos, hcs, hds⟩ := id hs
  have hTs : s.TypeIs (.ref sl) "slice" := ⟨os, hos, hcs⟩
  unfold getItem
  try with_reducible refine wpAny_holding ?_
  first | refine wpAny_bind (wpAny_pure ?_) | skip
  refine wpAny_bind (wpAny_sequenceKey ht.typeIs (by decide) ?_)
  refine wpAny_bind (wpAny_callSpecial?_slot (name := Str.ofString "__getitem__") ht.typeIs slot_tuple_getitem (wpAny_call_entry slot_tuple_getitem ht.typeIs entry_tuple_getitem ?_ (args_tuple_getitem _ _)))
  show wpAny _ _ (Builtin.Tuple.tupleItemsOf (.ref t) >>= _) _ _ s
  refine wpAny_bind (tupleItemsOf_ ht ?_)
  refine wpAny_bind (wpAny_typeOf hTs ?_)
  rw [if_pos (by decide)]
  refine wpAny_bind ?_
  unfold Builtin.Slice.sliceApplied Builtin.Slice.sliceFields
  refine wpAny_bind (wpAny_bind (wpAny_field hos hds (x := .none) rfl (wpAny_bind (wpAny_field hos hds (x := .int 4 u) rfl (wpAny_bind (wpAny_field hos hds (x := .none) rfl (wpAny_pure ?_)))))))
  refine wpAny_bind (slicePart_none ?_)
  show wpAny _ _ (if ((1 : Int) == 0) = true then _ else _) _ _ s
  rw [if_neg (by decide)]
  refine wpAny_bind (slicePart_none (wpAny_bind (slicePart_int (wpAny_bind (wpAny_pure ?_)))))
  rw [h5]
  show wpAny _ _ (pure ((0 : Int), (1 : Int), (4 : Nat))) _ _ s
  refine wpAny_pure ?_
  show wpAny _ _ (if ((0 : Int) == 0 && (1 : Int) == 1 && (4 : Nat) == 5) = true then _ else _) _ _ s
  rw [if_neg (by decide)]
  have e : ((List.range 4).filterMap fun (k : Nat) => items[((0 : Int) + (k : Int) * 1).toNat]?).toArray = (items.toList.take 4).toArray := by
    have := range_pick items.toList 0 4 (by rw [Array.length_toList]; (first | lia | omega))
    rw [List.drop_zero] at this
    rw [← this]
    have e2 : (fun (k : Nat) => items[((0 : Int) + (k : Int) * 1).toNat]?) = fun k => items.toList[0 + k]? := by
      funext k
      have : ((0 : Int) + (k : Int) * 1).toNat = 0 + k := by (first | lia | omega)
      rw [this]; simp
    rw [e2]
  rw [e]
  have hdrop : sizeOk (.seq (items.toList.take 4).toArray) := by
    show (items.toList.take 4).toArray.size ≤ sizeLine
    rw [List.size_toArray, List.length_take, sizeLine_eq]; (first | lia | omega)
  first
    | exact wpAny_bind (m := Builtin.Tuple.tupleExact _) (wpAny_newObj_type (wpAny_pure ⟨_, rfl, wpAny_pure h⟩) hdrop)
    | exact wpAny_bind (m := Builtin.Tuple.tupleExact _) (wpAny_newObj_type (wpAny_bind (wpAny_pure (wpAny_pure ⟨_, rfl, wpAny_pure h⟩))) hdrop)
    | exact wpAny_bind (wpAny_bind (m := Builtin.Tuple.tupleExact _) (wpAny_newObj_type (wpAny_pure (wpAny_pure ⟨_, rfl, wpAny_pure h⟩)) hdrop))
    | exact wpAny_bind (wpAny_bind (m := Builtin.Tuple.tupleExact _) (wpAny_newObj_type (wpAny_pure ⟨_, rfl, wpAny_pure h⟩) hdrop))
end
end Mine
end

noncomputable section -- NC
open PySem PyProof.Rows
open Builtin Builtin.ObjectAttr
set_option maxRecDepth 100000
namespace Mine

theorem lkf_ga : typeLookup (.type "function") "__getattribute__" = pure (some (.builtin "object.__getattribute__")) := by rw [typeLookup_type, builtinLookup_eq_fast]; kernel_rfl
theorem lkf_g : typeLookup (.type "function") "__getattr__" = pure none := by rw [typeLookup_type, builtinLookup_eq_fast]; kernel_rfl
theorem lkf_read : typeLookup (.type "function") "read" = pure none := by rw [typeLookup_type, builtinLookup_eq_fast]; kernel_rfl
theorem slotf_ga : Slot "function" "__getattribute__" "object.__getattribute__" :=
  .of (owner := "object") (n := "__getattribute__") (by rw [typeLookup_type, builtinLookup_eq_fast]; kernel_rfl) (by decide +kernel) (by decide +kernel) (by decide +kernel)
    (by first | exact .inl (by decide +kernel) | exact .inr (by decide +kernel)) (by rw [isSubtype_type]; kernel_rfl)
theorem slotf_sa : Slot "function" "__setattr__" "object.__setattr__" :=
  .of (owner := "object") (n := "__setattr__") (by rw [typeLookup_type, builtinLookup_eq_fast]; kernel_rfl) (by decide +kernel) (by decide +kernel) (by decide +kernel)
    (by first | exact .inl (by decide +kernel) | exact .inr (by decide +kernel)) (by rw [isSubtype_type]; kernel_rfl)

section
variable {prog : Program} {w : World} {A : Around} {E : Value → Shared → Prop} {h : Heap} {g : Array GenState} {d : Drawn} {t : Nat} {os : OsState}

theorem fn_load_entry {x dx : Addr} {o : Obj} {fd : FuncData} {m : Str → Option Value} {v : Value} {tk : Tok} {Q : PySem.Fin → Shared → Prop} (hx : h.get? x = some o) (hc : o.cls = .type "function") (hd : o.data = .func fd) (hdx : o.dict = some dx) (hns : h.Ns dx m) (hv : m "read" = some v)
    (hq : Q (.done (.ret v)) ⟨h, g, d, t, os⟩) : wpAny (model prog w) A (Builtin.«object.__getattribute__» ⟨[.ref x, .str "read" tk], []⟩) Q E ⟨h, g, d, t, os⟩ := by
  unfold Builtin.«object.__getattribute__»
  have f1 := lkf_read
  repeat (first | (with_reducible refine wpAny_loadPart_at hx ?_; rw [hc]) | (with_reducible refine wpAny_loadPart_at hx ?_; rw [hd]) | wp_step)
  rw [hdx]
  repeat (first | (with_reducible refine wpAny_nsGet hns ?_; rw [hv]) | wp_step)
  exact hq

theorem fn_getattr {x dx : Addr} {o : Obj} {fd : FuncData} {m : Str → Option Value} {v : Value} {expr : Bool} {Q : Value → Shared → Prop} (hx : h.get? x = some o) (hc : o.cls = .type "function") (hd : o.data = .func fd) (hdx : o.dict = some dx) (hns : h.Ns dx m) (hv : m "read" = some v)
    (hh : handedOut v = pure v) (hq : Q v ⟨h, g, d, t + 1, os⟩) : wpAny (model prog w) A (getAttr (.ref x) "read" expr) Q E ⟨h, g, d, t, os⟩ := by
  unfold getAttr getAttrBy
  have f1 := lkf_ga
  have f2 := lkf_g
  repeat (first | (with_reducible refine wpAny_loadPart_at hx ?_; rw [hc]) | wp_step)
  rw [show (expr && onTheHeap (Value.builtin "object.__getattribute__")) = false by cases expr <;> rfl]
  simp only [Bool.false_eq_true, if_false]
  unfold boundAndCalled
  rw [slotf_ga.bind]
  refine wpAny_bind (wpAny_pure ?_)
  have hT : (⟨h, g, d, t + 1, os⟩ : Shared).TypeIs (.ref x) "function" := ⟨o, hx, hc⟩
  refine wpAny_call_entry slotf_ga hT F.entry_object_getattribute (fn_load_entry hx hc hd hdx hns hv ?_) (F.args_object_getattribute_2 _ _)
  refine ⟨_, rfl, ?_⟩
  show wpAny _ _ (handedOut v) _ _ _
  rw [hh]
  exact wpAny_pure hq
theorem fn_getmethod {x dx : Addr} {o : Obj} {fd : FuncData} {m : Str → Option Value} {v : Value} {pl : Sem Bool} {Q : Value × List Value → Shared → Prop} (hx : h.get? x = some o) (hc : o.cls = .type "function") (hd : o.data = .func fd) (hdx : o.dict = some dx) (hns : h.Ns dx m) (hv : m "read" = some v)
    (hh : handedOut v = pure v) (hq : Q (v, []) ⟨h, g, d, t + 1, os⟩) : wpAny (model prog w) A (getMethod (.ref x) "read" pl) Q E ⟨h, g, d, t, os⟩ := by
  have hcan := F.canon_object_ga
  have hT : (⟨h, g, d, t, os⟩ : Shared).TypeIs (.ref x) "function" := ⟨o, hx, hc⟩
  unfold getMethod
  dsimp only
  refine wpAny_bind (wpAny_specialOf hT lkf_ga ?_)
  dsimp only
  rw [if_neg (by rw [hcan]; exact Bool.false_ne_true)]
  refine wpAny_bind (wpAny_specialOf hT lkf_g ?_)
  rw [if_neg (by simp)]
  refine wpAny_bind (wpAny_specialOf hT lkf_read ?_)
  dsimp only
  exact wpAny_bind (fn_getattr hx hc hd hdx hns hv hh (wpAny_pure hq))
end
end Mine
namespace Mine
theorem mro_fn : mroOf (.type "function") = pure [.type "function", .type "object"] := by kernel_rfl
theorem passes_fn (self : Value) : refuseLoop self "__setattr__" [.type "function", .type "object"] = pure () := by unfold refuseLoop; kernel_rfl
end Mine
namespace Mine
section
variable {prog : Program} {w : World} {A : Around} {E : Value → Shared → Prop} {h : Heap} {g : Array GenState} {d : Drawn} {t : Nat} {os : OsState}
theorem fn_store_entry {x : Addr} {o : Obj} {fd : FuncData} {v : Value} {tk : Tok} {Q : PySem.Fin → Shared → Prop} (hx : h.get? x = some o) (hc : o.cls = .type "function") (hd : o.data = .func fd) (hdn : o.dict = none)
    (hq : ∀ h' tk', h'.Ns h.objs.size (fun y => if y = "read" then some v else none) → (∀ b ob, b ≠ x → h.get? b = some ob → h'.get? b = some ob) → h'.get? x = some { cls := o.cls, dict := some h.objs.size, data := o.data, slots := o.slots } → Q (.done (.ret .none)) ⟨h', g, d, tk', os⟩) :
    wpAny (model prog w) A (Builtin.«object.__setattr__» ⟨[.ref x, .str "read" tk, v], []⟩) Q E ⟨h, g, d, t, os⟩ := by
  have f1 := lkf_read
  have hpass := passes_fn (.ref x)
  have hmro := mro_fn
  unfold Builtin.«object.__setattr__»
  repeat (first | rw [refuse_eq] | rw [hmro] | rw [hpass] | (with_reducible refine wpAny_loadPart_at hx ?_; rw [hc]) | wp_step)
  rw [hdn, hd]
  dsimp only
  rw [if_neg (by decide +kernel)]
  have hx₁ : (h.push { cls := .type "dict", data := .dict #[] }).get? x = some o := Heap.get?_push_of_some _ hx
  have hxs : x ≠ h.objs.size := Nat.ne_of_lt (Heap.lt_size hx)
  refine wpAny_bind (wpAny_alloc' ?_)
  refine wpAny_bind (wpAny_update' hx₁ ?_)
  have hfa : finalisedInACycleAlone "function" = false := by decide +kernel
  unfold dictMade
  dsimp only
  rw [hfa]
  simp only [Bool.false_eq_true, if_false, pure_bind]
  refine wpAny_pure ?_
  have hgd : ((h.push { cls := .type "dict", data := .dict #[] }).update x fun o => { cls := o.cls, dict := some h.objs.size, data := o.data, slots := o.slots }).get? h.objs.size
      = some { cls := .type "dict", data := .dict #[] } :=
    (Heap.get?_update_ne _ _ _ _ hxs.symm).trans (Heap.get?_push_at rfl rfl)
  have hnd : ((h.push { cls := .type "dict", data := .dict #[] }).update x fun o => { cls := o.cls, dict := some h.objs.size, data := o.data, slots := o.slots }).Ns h.objs.size (fun _ => none) :=
    ⟨_, #[], _, hgd, rfl, fun e he => absurd he (by simp), fun _ => rfl⟩
  show wpAny _ _ (storeInDict h.objs.size (.str "read" tk) "read" v) _ _ _
  unfold storeInDict newKeyGuard
  refine wpAny_bind (wpAny_pure (wpAny_bind (wpAny_nsSet1 (Heap.Ns1.of_empty hnd) fun h' hn' hs => ?_)))
  obtain ⟨oD, esD, epD, hoD, hdD, hcD⟩ := hn'.count (Within.cons "read" v Within.nil)
  refine wpAny_bind (wpAny_lookBehind hoD (by rw [hdD]; exact pastItsLine_dict (Nat.le_trans hcD (by rw [List.length_cons, List.length_nil, sizeLine_eq]; (first | lia | omega)))) ?_)
  have hx' : h'.get? x = some { cls := o.cls, dict := some h.objs.size, data := o.data, slots := o.slots } := by
    refine (hs.2 x hxs).trans (Heap.get?_update_self _ hx₁ ?_)
    have hfr := (Heap.get?_some_iff.mp hx).2
    obtain ⟨oc, od, odt, osl⟩ := o
    cases odt <;> first | rfl | exact hfr
  refine wpAny_pure (hq h' _ hn'.ns (fun b ob hbx hb => ?_) hx')
  exact (hs.2 b (Nat.ne_of_lt (Heap.lt_size hb))).trans ((Heap.get?_update_ne _ _ _ _ hbx).trans (Heap.get?_push_of_some _ hb))

theorem fn_setattr {x : Addr} {o : Obj} {fd : FuncData} {v : Value} {Q : Unit → Shared → Prop} (hx : h.get? x = some o) (hc : o.cls = .type "function") (hd : o.data = .func fd) (hdn : o.dict = none)
    (hq : ∀ h' tk', h'.Ns h.objs.size (fun y => if y = "read" then some v else none) → (∀ b ob, b ≠ x → h.get? b = some ob → h'.get? b = some ob) → h'.get? x = some { cls := o.cls, dict := some h.objs.size, data := o.data, slots := o.slots } → Q () ⟨h', g, d, tk', os⟩) :
    wpAny (model prog w) A (setAttr (.ref x) "read" v) Q E ⟨h, g, d, t, os⟩ := by
  have hT : (⟨h, g, d, t + 1, os⟩ : Shared).TypeIs (.ref x) "function" := ⟨o, hx, hc⟩
  unfold setAttr
  refine wpAny_bind (wpAny_mkText ?_)
  refine wpAny_bind (wpAny_callSpecial?_slot (name := Str.ofString "__setattr__") hT slotf_sa (wpAny_call_entry slotf_sa hT F.entry_object_sa (fn_store_entry hx hc hd hdn fun h' tk' a b c => ?_) (F.store_object.args _ _ _)))
  exact ⟨_, rfl, wpAny_pure (hq h' tk' a b c)⟩
end
end Mine
end

noncomputable section -- ND
open PySem PyProof.Rows
open Builtin
set_option maxRecDepth 100000
namespace Mine
theorem slotci_iter : Slot "callable_iterator" "__iter__" "callable_iterator.__iter__" :=
  .of (owner := "callable_iterator") (n := "__iter__") (by rw [typeLookup_type, builtinLookup_eq_fast]; kernel_rfl) (by decide +kernel) (by decide +kernel) (by decide +kernel)
    (by first | exact .inl (by decide +kernel) | exact .inr (by decide +kernel)) (by rw [isSubtype_type]; kernel_rfl)
theorem slotci_next : Slot "callable_iterator" "__next__" "callable_iterator.__next__" :=
  .of (owner := "callable_iterator") (n := "__next__") (by rw [typeLookup_type, builtinLookup_eq_fast]; kernel_rfl) (by decide +kernel) (by decide +kernel) (by decide +kernel)
    (by first | exact .inl (by decide +kernel) | exact .inr (by decide +kernel)) (by rw [isSubtype_type]; kernel_rfl)
theorem entryci_iter : entryFor table "callable_iterator.__iter__" = some Builtin.«dict_keyiterator.__iter__» :=
  entryFor_alias (id' := "dict_keyiterator.__iter__") (by kernel_rfl) rfl (by decide +kernel) (by kernel_rfl)
theorem entryci_next : entryFor table "callable_iterator.__next__" = some Builtin.«callable_iterator.__next__» := entryFor_of_tree (by kernel_rfl)
theorem argsci_iter (a : Value) : argsOk "callable_iterator.__iter__" ⟨[a], []⟩ := by unfold argsOk; kernel_rfl
theorem argsci_next (a : Value) : argsOk "callable_iterator.__next__" ⟨[a], []⟩ := by unfold argsOk; kernel_rfl
theorem lkm_call : ∃ v, typeLookup (.type "method") "__call__" = pure (some v) := ⟨.builtin "method.__call__", by rw [typeLookup_type, builtinLookup_eq_fast]; kernel_rfl⟩
theorem kind_iter : builtinKind "iter" = none := by decide +kernel
theorem plain_iter : plainId "iter" = true := by decide +kernel
theorem entry_iter : entryFor table "iter" = some Builtin.«iter» := entryFor_of_tree (by kernel_rfl)
theorem args_iter2 (a b : Value) : argsOk "iter" ⟨[a, b], []⟩ := by unfold argsOk; kernel_rfl

noncomputable abbrev methO (f : Addr) (x : Value) : Obj := { cls := .type "method", data := .fields #[.ref f, x] }
noncomputable abbrev ciO (bm : Value) (sent : Value) (b : Bool) : Obj := { cls := .type "callable_iterator", data := .fields #[bm, sent, .bool b] }

section
variable {prog : Program} {w : World} {A : Around} {E : Value → Shared → Prop} {s : Shared}

theorem call_iter2 {bm f : Addr} {x sent : Value} {Q : Value → Shared → Prop} (hb : s.heap.get? bm = some (methO f x)) (hq : Q (.ref s.heap.objs.size) { s with heap := s.heap.push (ciO (.ref bm) sent false) }) :
    wpAny (model prog w) A (call (.builtin "iter") [.ref bm, sent]) Q E s := by
  refine Calls.call_function_entry kind_iter plain_iter entry_iter (args_iter2 _ _) ?_
  obtain ⟨cv, hcv⟩ := lkm_call
  have hT : s.TypeIs (.ref bm) "method" := ⟨_, hb, rfl⟩
  unfold Builtin.«iter»
  refine wpAny_bind (m := someArgs "iter" 1 2 _) (wpAny_pure ?_)
  dsimp only
  refine wpAny_bind (wpAny_specialOf hT hcv ?_)
  rw [if_neg (by simp)]
  refine wpAny_bind (wpAny_rule ?_)
  refine wpAny_bind ?_
  refine wpAny_newObj_type ?_ (by size_fits)
  exact wpAny_pure ⟨_, rfl, hq⟩

theorem wp_stop {α : Type} {Q : α → Shared → Prop} (hh : A.handled = none) (h : ∀ h' e, (∀ b o, s.heap.get? b = some o → h'.get? b = some o) → (∃ o, h'.get? e = some o ∧ o.cls = .type "StopIteration") → E (.ref e) { s with heap := h' }) : wpAny (model prog w) A (SmallTypes.stopIteration : Sem α) Q E s := by
  show wpAny _ _ (newExc (.type "StopIteration") [] >>= _) _ _ _
  refine wpAny_bind ?_
  simp only [newExc, newTuple]
  refine wpAny_bind (wpAny_newObj_type ?_ (by size_fits))
  refine wpAny_bind (m := firstArgMember _ _) (wpAny_of_eq (a := Value.none) (by first | rfl | (simp only [firstArgMember]; rfl)) ?_)
  refine wpAny_newObj_type ?_ (by size_fits)
  simp only [raiseNew]
  refine wpAny_bind (wpAny_handled ?_)
  rw [hh]
  refine wpAny_bind (wpAny_pure (wpAny_throw ?_))
  exact h _ _ (fun b o e => Heap.get?_push_of_some _ (Heap.get?_push_of_some _ e)) ⟨_, Heap.get?_push_size _ rfl, rfl⟩
theorem pyIter_ci {it : Addr} {bm sent : Value} {b : Bool} {Q : Value → Shared → Prop} (hi : s.heap.get? it = some (ciO bm sent b)) (hq : Q (.ref it) s) : wpAny (model prog w) A (pyIter (.ref it)) Q E s := by
  have hT : s.TypeIs (.ref it) "callable_iterator" := ⟨_, hi, rfl⟩
  refine wpAny_pyIter_slot hT slotci_iter (wpAny_call_entry slotci_iter hT entryci_iter ?_ (argsci_iter _))
  show wpAny _ _ (ret (.ref it)) _ _ s
  exact wpAny_pure ⟨_, rfl, "callable_iterator", _, hT, slotci_next.lookup, hq⟩

theorem next_ci_ended {it : Addr} {bm sent : Value} {Q : Option Value → Shared → Prop} (hh : A.handled = none) (hi : s.heap.get? it = some (ciO bm sent true)) (hq : ∀ h', (∀ b o, s.heap.get? b = some o → h'.get? b = some o) → Q none { s with heap := h' }) :
    wpAny (model prog w) A (pyNext (.ref it)) Q E s := by
  have hT : s.TypeIs (.ref it) "callable_iterator" := ⟨_, hi, rfl⟩
  unfold pyNext
  refine wpAny_bind (wpAny_attempt (wpAny_callSpecial?_slot (name := Str.ofString "__next__") hT slotci_next (wpAny_call_entry slotci_next hT entryci_next ?_ (argsci_next _))))
  show wpAny _ _ (field (.ref it) 2 >>= _) _ _ s
  refine wpAny_bind (wpAny_field hi rfl (x := .bool true) rfl ?_)
  rw [if_pos (by rfl)]
  refine wpAny_bind (wpAny_rule ?_)
  refine wpAny_bind (wp_stop (A := A.in1) hh fun h' e hk he => ?_)
  obtain ⟨o, ho, hc⟩ := he
  refine wpAny_bind (wpAny_isInstance (T := "StopIteration") (b := true) ⟨o, ho, hc⟩ isSubtype_stop ?_)
  exact wpAny_pure (hq _ hk)

theorem next_ci {it bm f : Addr} {x : Value} {st : Tok} {Q : Option Value → Shared → Prop} (hh : A.handled = none) (hi : s.heap.get? it = some (ciO (.ref bm) (.str ⟨#[]⟩ st) false)) (hb : s.heap.get? bm = some (methO f x)) (hne : bm ≠ it)
    (hf : ∃ fo fd, s.heap.get? f = some fo ∧ fo.data = .func fd)
    (hcall : codeAny (model prog w) A.in1 (.call (.ref f) ⟨[x], []⟩) (fun r s₁ => ∃ ch tk, r = .ok (.ret (.str ch tk)) ∧ s₁.heap.get? it = some (ciO (.ref bm) (.str ⟨#[]⟩ st) false) ∧ s₁.heap.get? bm = some (methO f x) ∧ (∃ fo fd, s₁.heap.get? f = some fo ∧ fo.data = .func fd) ∧
      (ch ≠ ⟨#[]⟩ → Q (some (.str ch tk)) s₁) ∧ (ch = ⟨#[]⟩ → ∀ h', h'.get? it = some (ciO .none .none true) → (∀ b o, b ≠ it → s₁.heap.get? b = some o → h'.get? b = some o) → Q none { s₁ with heap := h' })) s) :
    wpAny (model prog w) A (pyNext (.ref it)) Q E s := by
  have hT : s.TypeIs (.ref it) "callable_iterator" := ⟨_, hi, rfl⟩
  unfold pyNext
  refine wpAny_bind (wpAny_attempt (wpAny_callSpecial?_slot (name := Str.ofString "__next__") hT slotci_next (wpAny_call_entry slotci_next hT entryci_next ?_ (argsci_next _))))
  show wpAny _ _ (field (.ref it) 2 >>= _) _ _ s
  refine wpAny_bind (wpAny_field hi rfl (x := .bool false) rfl ?_)
  rw [if_neg (by decide)]
  show wpAny _ _ (field (.ref it) 0 >>= _) _ _ s
  refine wpAny_bind (wpAny_field hi rfl (x := .ref bm) rfl ?_)
  refine wpAny_bind (wpAny_attempt ?_)
  unfold callOutOfASlot
  have hbx : ∀ (s : Shared) (A : Around) (Q : Bool → Shared → Prop) (E : Value → Shared → Prop), s.heap.get? bm = some (methO f x) → (∃ fo fd, s.heap.get? f = some fo ∧ fo.data = .func fd) → Q true s → wpAny (model prog w) A (borrowsExactly (.ref bm)) Q E s := by
    rintro s A Q E hb ⟨fo, fd, hf, hd⟩ hq
    unfold borrowsExactly
    refine wpAny_bind (wpAny_load hb ?_)
    dsimp only
    rw [if_pos (by decide)]
    refine wpAny_bind (wpAny_load hf ?_)
    rw [hd]
    exact wpAny_pure hq
  refine wpAny_bind (hbx _ _ _ _ hb hf ?_)
  rw [if_pos rfl]
  unfold callBorrowed
  refine PySem.W.X.x_call (hc := ?_) (by simp)
  refine ks_codeAny_call_bound hb ?_
  refine codeAny_mono hcall fun r s₁ hr => ?_
  obtain ⟨ch, tk, rfl, hi1, hb1, hf1, hq1, hq2⟩ := hr
  refine wpAny_pure ?_
  dsimp only
  refine wpAny_bind (wpAny_field hi1 rfl (x := .bool false) rfl ?_)
  rw [if_neg (by decide)]
  refine wpAny_bind (wpAny_field hi1 rfl (x := .str ⟨#[]⟩ st) rfl ?_)
  refine wpAny_bind (wpAny_holding ((SeqAt.EqAt.str_str (⟨#[]⟩ : Str) st ch tk) prog w _ _ ?_))
  by_cases hc : ch = ⟨#[]⟩
  · subst hc
    rw [if_neg (by decide)]
    refine wpAny_bind (wpAny_rule ?_)
    refine wpAny_bind ?_
    show wpAny _ _ (field (.ref it) 0 >>= _) _ _ _
    refine wpAny_bind (wpAny_field hi1 rfl (x := .ref bm) rfl ?_)
    show wpAny _ _ (slotLetsGo _ (.ref bm) _ >>= _) _ _ _
    refine wpAny_bind ?_
    unfold slotLetsGo
    refine wpAny_bind (hbx _ _ _ _ hb1 hf1 ?_)
    rw [if_pos rfl]
    refine wpAny_pure ?_
    refine wpAny_bind (wpAny_setField_rec hi1 (by simp) fun h₁ hz₁ hs₁ => ?_)
    replace hz₁ : h₁.get? it = some (ciO .none (.str ⟨#[]⟩ st) false) := hz₁
    refine wpAny_bind (wpAny_setField_rec hz₁ (by simp) fun h₂ hz₂ hs₂ => ?_)
    replace hz₂ : h₂.get? it = some (ciO .none .none false) := hz₂
    refine wpAny_setField_rec hz₂ (by simp) fun h₃ hz₃ hs₃ => ?_
    replace hz₃ : h₃.get? it = some (ciO .none .none true) := hz₃
    refine wp_stop (A := A.in1) hh fun h' e hk he => ?_
    obtain ⟨o, ho, hc⟩ := he
    refine wpAny_bind (wpAny_isInstance (T := "StopIteration") (b := true) ⟨o, ho, hc⟩ isSubtype_stop ?_)
    exact wpAny_pure (hq2 rfl h' (hk _ _ hz₃) fun b o n e => hk _ _ (hs₃.extBut _ _ n (hs₂.extBut _ _ n (hs₁.extBut _ _ n e))))
  · have : ((⟨#[]⟩ : Str) == ch) = false := beq_eq_false_iff_ne.mpr fun e => hc e.symm
    rw [this, if_pos (by rfl)]
    exact wpAny_pure ⟨_, rfl, wpAny_pure (hq1 hc)⟩
end
end Mine
end

noncomputable section -- NE
open PySem PyProof.Rows
open Builtin Builtin.ObjectAttr
set_option maxRecDepth 100000
namespace Mine
theorem lkf_get : typeLookup (.type "function") "__get__" = pure (some (.builtin "function.__get__")) := by rw [typeLookup_type, builtinLookup_eq_fast]; kernel_rfl
theorem lkf_set : typeLookup (.type "function") "__set__" = pure none := by rw [typeLookup_type, builtinLookup_eq_fast]; kernel_rfl
theorem lkf_del : typeLookup (.type "function") "__delete__" = pure none := by rw [typeLookup_type, builtinLookup_eq_fast]; kernel_rfl
section
variable {prog : Program} {w : World} {A : Around} {E : Value → Shared → Prop} {h : Heap} {g : Array GenState} {d : Drawn} {t : Nat} {os : OsState}
variable {nm q : Str} {C N x : Addr} {bs : List Value} {sn : List Str} {sub : List Value} {ab : Bool} {col : Option Bool} {dd : Option Addr} {k0 k1 k2 k3 k5 : Option Value} {newId : String}
  {mN mA : Str → Option Value} {name : Str} {v : Value}

theorem fn_get' {f : Addr} {fo : Obj} {x tp : Value} {R : Result → Shared → Prop} (hx : (x == .none) = false) (hf : h.get? f = some fo) (hfc : fo.cls = .type "function")
    (hq : R (.ok (.ret (.ref h.objs.size))) ⟨h.push (methO f x), g, d, t, os⟩) : codeAny (model prog w) A (.call (.builtin "function.__get__") ⟨[.ref f, x, tp], []⟩) R ⟨h, g, d, t, os⟩ := by
  refine codeAny_call_builtin PySem.W.KF.slot_fn.plain PySem.W.KF.entry_fn (PySem.W.KF.slot_fn.check _ _ _ _ _ _ _ _ ⟨_, hf, hfc⟩ (PySem.W.KF.args_fn _ _ _) ?_)
  unfold Builtin.«function.__get__»
  repeat wp_step
  dsimp only
  rw [hx]
  simp only [Bool.false_eq_true, if_false]
  refine wpAny_bind (wpAny_newObj_type ?_ (by size_fits))
  exact wpAny_pure hq
set_option maxHeartbeats 1000000 in
theorem bound_entry {tk : Tok} {Q : PySem.Fin → Shared → Prop} {f : Addr} {fo : Obj} {fd : FuncData}
    (hC : h.get? C = some (excClassObj nm q C N bs [.type "object"] true sn sub ab col dd k0 k1 k2 k3 k5 newId)) (hn : h.Ns N mN) (hna : mN "_read_char" = some (.ref f)) (hng : mN "__getattr__" = none)
    (hB : typeLookup (.type "object") "_read_char" = pure none) (I : h.Inst x C mA) (hv : mA "_read_char" = none) (hf : h.get? f = some fo) (hfc : fo.cls = .type "function") (hfd : fo.data = .func fd)
    (hq : Q (.done (.ret (.ref h.objs.size))) ⟨h.push (methO f (.ref x)), g, d, t, os⟩) :
    wpAny (model prog w) A (Builtin.«proto.getattr_hooked» ⟨[.ref x, .str "_read_char" tk], []⟩) Q E ⟨h, g, d, t, os⟩ := by
  obtain ⟨o, hx, hc, hnc, hd⟩ := I
  have f1 := lkf_get
  have f2 := lkf_set
  have f3 := lkf_del
  unfold Builtin.«proto.getattr_hooked»
  repeat (first | (with_reducible refine wpAny_loadPart_at hx ?_; rw [hc]) | (with_reducible refine wpAny_typeLookup_exc hC hn F.mro_object hB ?_; rw [hna]) | (with_reducible refine wpAny_typeLookup_exc hC hn F.mro_object F.lk_object_getattr ?_; rw [hng]) | (with_reducible refine wpAny_loadPart_at hf ?_; rw [hfc]) | wp_step)
  split
  · rename_i c hcd
    exact absurd hcd (hnc c)
  unfold instanceDict
  repeat (first | (with_reducible refine wpAny_loadPart_at hx ?_; rw [hc]) | with_reducible refine wpAny_loadPart_at hC ?_ | wp_step)
  rcases hd with ⟨hdn, hmA⟩ | ⟨dx, hdx, hne, hns⟩
  · rw [hdn]
    repeat (first | (with_reducible refine wpAny_loadPart_at hx ?_; rw [hc]) | (with_reducible refine wpAny_typeLookup_exc hC hn F.mro_object F.lk_object_getattr ?_; rw [hng]) | wp_step)
    exact fn_get' rfl hf hfc (wpAny_pure hq)
  · rw [hdx]
    repeat (first | (with_reducible refine wpAny_nsGet hns.ns ?_; rw [hv]) | (with_reducible refine wpAny_loadPart_at hx ?_; rw [hc]) | (with_reducible refine wpAny_typeLookup_exc hC hn F.mro_object F.lk_object_getattr ?_; rw [hng]) | wp_step)
    exact fn_get' rfl hf hfc (wpAny_pure hq)
theorem bound_attr {f : Addr} {fo : Obj} {fd : FuncData} {expr : Bool} {Q : Value → Shared → Prop}
    (hC : h.get? C = some (excClassObj nm q C N bs [.type "object"] true sn sub ab col dd k0 k1 k2 k3 k5 newId)) (hn : h.Ns N mN) (hna : mN "_read_char" = some (.ref f)) (hg' : mN "__getattribute__" = none) (hng : mN "__getattr__" = none)
    (hB : typeLookup (.type "object") "_read_char" = pure none) (I : h.Inst x C mA) (hv : mA "_read_char" = none) (hf : h.get? f = some fo) (hfc : fo.cls = .type "function") (hfd : fo.data = .func fd)
    (hq : Q (.ref h.objs.size) ⟨h.push (methO f (.ref x)), g, d, t + 1, os⟩) : wpAny (model prog w) A (getAttr (.ref x) "_read_char" expr) Q E ⟨h, g, d, t, os⟩ := by
  obtain ⟨o, hx, hc, _⟩ := id I
  unfold getAttr getAttrBy
  repeat (first | (with_reducible refine wpAny_loadPart_at hx ?_; rw [hc]) | (with_reducible refine wpAny_typeLookup_exc hC hn F.mro_object F.lk_object_ga ?_; rw [hg']) | wp_step)
  show wpAny _ _ ((runValue (.builtin "proto.getattr_hooked" ⟨[.ref x, .str "_read_char" t], []⟩)).onRaise (noteIf true (.ref x) (.str "_read_char" t))) _ _ _
  refine wpAny_onRaise (wpAny_runValue (codeAny_builtin F.plainObj_entry_getattr_hooked (bound_entry hC hn hna hng hB I hv hf hfc hfd ?_)))
  show wpAny _ _ (handedOut (.ref _)) _ _ _
  exact wpAny_pure hq
end
end Mine
end

noncomputable section -- T1
open PySem PyProof.Rows
set_option maxRecDepth 100000
namespace Mine

theorem signs_get {x : Str} {i : Nat} {d : D} (h : (signs x)[i]? = some d) : ∃ n, x.cps.toList[i]? = some n ∧ d = .str ⟨#[n]⟩ := by
  unfold signs at h
  rw [List.getElem?_map] at h
  cases e : x.cps.toList[i]? with
  | none => rw [e] at h; cases h
  | some n => rw [e] at h; cases h; exact ⟨n, rfl, rfl⟩
theorem one_sign {n : Nat} {a : Str} {k : Nat} (h : ((⟨#[n]⟩ : Str) == a) = true) (e : a = ⟨#[k]⟩ := by decide +kernel) : n = k := by
  subst e
  have := eq_of_beq h
  simpa using this
theorem one_sign_ne {n : Nat} {a : Str} {k : Nat} (h : ((⟨#[n]⟩ : Str) == a) = false) (e : a = ⟨#[k]⟩ := by decide +kernel) : n ≠ k := by
  subst e
  rintro rfl
  simp at h

noncomputable def colStep (size : Int) (col : Int) (n : Nat) : Int := if n = 9 then col - col.fmod size + size else col + 1
noncomputable def colF (l : List Nat) (size : Int) : Int := l.foldl (colStep size) 0

noncomputable def specColumn : List D → D → Prop := fun ds d => ∃ (x : Str) (size : Int), ds = [.str x, .int size] ∧ 0 < size ∧ d = .int (colF x.cps.toList size)

theorem fn_column (w : World) : Fn w (.ref 162) 1 specColumn := by
  refine Fn_intro (fd := fdColumn) (body := bodyOf (topSt 11)) (ps := [Str.ofString "lead", Str.ofString "size"]) (by exact mem_lkA rfl) rfl ?_ rfl ?_ (by decide) ?_ (by decide) rfl rfl rfl rfl rfl ?_
  · exact vs2 fun _ _ => rfl
  · rintro ds d ⟨x, size, rfl, _⟩; rfl
  · decide
  rintro A μ s ds d ⟨x, size, rfl, hs, rfl⟩
  refine W_assign Ev_int ⟨rfl, .inl rfl⟩ ?_
  refine W_for (fun i ρ => ρ "column" = some (.fz (.int ((x.cps.toList.take i).foldl (colStep size) 0))) ∧ ρ "size" = some (.fz (.int size))) (Ev_name rfl) Itb.str ⟨rfl, .inl rfl⟩ ⟨rfl, rfl⟩ ?_ ?_
  · rintro i d ρ g hd ⟨h1, h2⟩
    obtain ⟨n, hn, rfl⟩ := signs_get hd
    have e : (x.cps.toList.take (i + 1)).foldl (colStep size) 0 = colStep size ((x.cps.toList.take i).foldl (colStep size) 0) n := by
      rw [List.take_add_one, hn, List.foldl_append]; rfl
    rw [e]
    generalize (x.cps.toList.take i).foldl (colStep size) 0 = col at h1
    refine W_if (Tst_cmp (Ev_name rfl) Ev_str (.isD _) .eqS) (fun hb => ?_) fun hb => ?_
    · refine W_assign (Ev_add (Ev_sub (Ev_name h1) (Ev_fmod (Ev_name h1) (Ev_name h2) (by (first | lia | omega)))) (Ev_name h2)) ⟨rfl, .inl rfl⟩ (W_end (W_nil ?_))
      refine ⟨?_, h2⟩
      have : n = 9 := one_sign hb
      simp [colStep, this, upd]
    · refine W_assign (Ev_add (Ev_name h1) Ev_int) ⟨rfl, .inl rfl⟩ (W_end (W_nil ?_))
      refine ⟨?_, h2⟩
      have : n ≠ 9 := one_sign_ne hb
      simp [colStep, this, upd]
  · rintro ρ ⟨h1, h2⟩
    refine W_ret (Ev_name h1) ?_
    show D.int _ = D.int _
    rw [show (signs x).length = x.cps.toList.length by simp [signs], List.take_length]; rfl
end Mine
end

noncomputable section -- T2
open PySem PyProof.Rows
set_option maxRecDepth 100000
namespace Mine

noncomputable def leadSign (n : Int) (k : Nat) : Nat := if ((n.fdiv 4).fdiv (2 ^ k)).fmod 2 = 0 then 32 else 9
noncomputable def leadL (n : Int) : List Nat := (List.range (1 + n.fmod 4).toNat).map (leadSign n)
noncomputable def leadF (n : Int) : Str := S (leadL n)

noncomputable def specLead : List D → D → Prop := fun ds d => ∃ n : Int, ds = [.int n] ∧ d = .str (leadF n)

theorem Int_fmod_lt (a : Int) {b : Int} (hb : 0 < b) : 0 ≤ a.fmod b ∧ a.fmod b < b := by
  rw [Int.fmod_eq_emod_of_nonneg _ (Int.le_of_lt hb)]
  exact ⟨Int.emod_nonneg _ (by (first | lia | omega)), Int.emod_lt_of_pos _ hb⟩

theorem fn_lead (w : World) : Fn w (.ref 169) 1 specLead := by
  refine Fn_intro (fd := fdLead) (body := bodyOf (topSt 12)) (ps := [Str.ofString "number"]) (by exact mem_lkA rfl) rfl ?_ rfl ?_ (by decide) (by decide) (by decide) rfl rfl rfl rfl rfl ?_
  · exact vs1 fun _ => rfl
  · rintro ds d ⟨x, rfl, _⟩; rfl
  rintro A μ s ds d ⟨n, rfl, rfl⟩
  have h4 := Int_fmod_lt n (b := 4) (by decide)
  refine W_assign Ev_str ⟨rfl, .inl rfl⟩ ?_
  refine W_for (fun i ρ => ρ "lead" = some (.fz (.str (S ((List.range i).map (leadSign n))))) ∧ ρ "number" = some (.fz (.int n)))
    (EvV_t1 (Ev_add Ev_int (Ev_fmod (Ev_name rfl) Ev_int (by decide))) .rng (by decide) boot_range rfl) (Itb.rng (by (first | lia | omega)) (by (first | lia | omega)) (by (first | lia | omega)) (by (first | lia | omega))) ⟨rfl, .inl rfl⟩ ⟨rfl, rfl⟩ ?_ ?_
  · rintro i d ρ g hd ⟨h1, h2⟩
    obtain ⟨hi, rfl⟩ := rngD_get0 hd
    have h2' := Int_fmod_lt ((n.fdiv 4).fdiv (2 ^ i)) (b := 2) (by decide)
    have hi4 : i < 4 := by (first | lia | omega)
    have hp : (0 : Int) < 2 ^ i := Int.pow_pos (by decide)
    have hp' : (2 : Int) ^ i < 1073741824 := by
      have : i = 0 ∨ i = 1 ∨ i = 2 ∨ i = 3 := by (first | lia | omega)
      rcases this with rfl | rfl | rfl | rfl <;> decide
    refine W_assign (Ev_cat (Ev_name h1) (EvV_sub (P2 := isD _ (.int (((n.fdiv 4).fdiv (2 ^ i)).fmod 2))) Ev_str (Ev_fmod (Ev_fdiv (Ev_fdiv (Ev_name h2) Ev_int (by decide) (by decide)) (Ev_pow2 Ev_int (Ev_name rfl) (by (first | lia | omega))) hp hp') Ev_int (by decide)) (.isD _) (.itemS (n := leadSign n i) rfl (by (first | lia | omega)) (by (first | lia | omega)) ?_)) ?_) ⟨rfl, .inl rfl⟩ (W_nil ⟨?_, h2⟩)
    · unfold leadSign
      have : ((n.fdiv 4).fdiv (2 ^ i)).fmod 2 = 0 ∨ ((n.fdiv 4).fdiv (2 ^ i)).fmod 2 = 1 := by (first | lia | omega)
      rcases this with e | e <;> rw [e] <;> decide +kernel
    · rw [S_length, sizeLine_eq]
      show _ + 1 ≤ _
      simp; (first | lia | omega)
    · show some (LV.fz (.str (S _ ++ S [leadSign n i]))) = _
      rw [S_append, List.range_succ, List.map_append]; rfl
  · rintro ρ ⟨h1, h2⟩
    refine W_ret (Ev_name h1) ?_
    show D.str _ = D.str _
    unfold leadF leadL
    rw [rngD_len, Int.sub_zero]
end Mine
end

noncomputable section -- T3
open PySem PyProof.Rows
set_option maxRecDepth 100000
namespace Mine

noncomputable def writtenL (l : List Nat) (manner : Int) : List Nat := if manner.fmod 2 = 0 then 34 :: l ++ [34, 10] else l.flatMap (fun n => [92, n]) ++ [32]

noncomputable def specWritten : List D → D → Prop := fun ds d => ∃ (l : List Nat) (m : Int), ds = [.str (S l), .int m] ∧ l.length ≤ 100 ∧ d = .str (S (writtenL l m))

theorem fn_written (w : World) : Fn w (.ref 155) 1 specWritten := by
  refine Fn_intro (fd := fdWritten) (body := bodyOf (topSt 10)) (ps := [Str.ofString "word", Str.ofString "manner"]) (by exact mem_lkA rfl) rfl ?_ rfl ?_ (by decide) (by decide) (by decide) rfl rfl rfl rfl rfl ?_
  · exact vs2 fun _ _ => rfl
  · rintro ds d ⟨x, m, rfl, _⟩; rfl
  rintro A μ s ds d ⟨l, m, rfl, hl, rfl⟩
  refine W_if (Tst_cmp (Ev_fmod (Ev_name rfl) Ev_int (by decide)) Ev_int (.isD _) .eqI) (fun hb => ?_) fun hb => ?_
  · have hm : m.fmod 2 = 0 := by simpa using hb
    refine W_ret (Ev_cat (Ev_cat Ev_str (Ev_name rfl) ?_) Ev_str ?_) ?_
    · rw [S_length, sizeLine_eq]; show 1 + _ ≤ _; (first | lia | omega)
    · rw [Str.length_append, S_length, sizeLine_eq]; show 1 + _ + 2 ≤ _; (first | lia | omega)
    · show D.str (S [34] ++ S l ++ S [34, 10]) = D.str _
      rw [S_append, S_append]
      unfold writtenL; rw [if_pos hm]; rfl
  · have hm : ¬ m.fmod 2 = 0 := by simpa using hb
    refine W_end (W_ret (Ev_cat (Ev_join (xs := l.map fun n => S [92, n]) Ev_str (Ev.eq (Ev_listcomp (ds := signs (S l)) (fun _ => true) (fun d => match d with | .str x => .str (S [92] ++ x) | d => d) (Ev_name rfl) Itb.str (fun C s μ i d hd => ?_) ?_ rfl rfl (by decide) rfl rfl (by decide)) ?_) ?_) Ev_str ?_) ?_)
    · obtain ⟨n, hn, rfl⟩ := signs_get hd
      refine ⟨TstL_nil, fun _ => Ev_cat Ev_str (Ev_name compLoc_x) ?_⟩
      show 1 + 1 ≤ sizeLine; rw [sizeLine_eq]; (first | lia | omega)
    · rw [signs, List.length_map, S_cps, sizeLine_eq]; (first | lia | omega)
    · unfold signs
      rw [List.filter_eq_self.mpr (fun _ _ => rfl), S_cps, List.map_map, List.map_map]; rfl
    · unfold JoinOk Builtin.Str.tooLong
      have : ∀ (l : List Nat) (k : Nat), (l.map fun n => S [92, n]).foldl (fun a x => a + x.length + (⟨#[]⟩ : Str).length) k = k + 2 * l.length := by
        intro l
        induction l with
        | nil => intro k; simp
        | cons n l ih => intro k; rw [List.map_cons, List.foldl_cons, ih]; show k + 2 + 0 + _ = _; simp; (first | lia | omega)
      rw [List.foldl_toArray', this] <;> simp [sizeLine_eq]
      (first | lia | omega)
    · rw [S_length, sizeLine_eq]
      have : ∀ l : List Nat, ((l.map fun n => S [92, n]).flatMap fun x => x.cps.toList).length = 2 * l.length := by
        intro l
        induction l with
        | nil => rfl
        | cons n l ih => rw [List.map_cons, List.flatMap_cons, List.length_append, ih]; show 2 + _ = _; simp; (first | lia | omega)
      rw [this]; show _ + 1 ≤ _; (first | lia | omega)
    · show D.str (S _ ++ S [32]) = D.str _
      rw [S_append]
      unfold writtenL; rw [if_neg hm, List.flatMap_map]; rfl
end Mine
end

noncomputable section -- T4
open PySem PyProof.Rows
set_option maxRecDepth 100000
namespace Mine

theorem take_succ_foldl {α β : Type} (f : β → α → β) (b : β) (l : List α) {i : Nat} {x : α} (h : l[i]? = some x) : (l.take (i + 1)).foldl f b = f ((l.take i).foldl f b) x := by
  rw [List.take_add_one, h]; simp

theorem fn_AC (w : World) : Fn w (.ref 77) 1 specAC := by
  refine Fn_intro (fd := fdAC) (body := bodyOf (topSt 5)) (ps := [Str.ofString "target", Str.ofString "source"]) (by exact mem_lkA rfl) rfl ?_ rfl ?_ (by decide) (by decide) (by decide) rfl rfl rfl rfl rfl ?_
  · exact vs2 fun _ _ => rfl
  · rintro ds d ⟨t, s, rfl, _⟩; rfl
  rintro A μ s ds d ⟨t, sr, rfl, rfl, ht, hs, hkind⟩
  refine W_newdict ⟨rfl, .inl rfl⟩ fun a => ?_
  refine W_for_items (l := t) (fun i ρ => ρ "new_callers" = some (OD w a ((t.take i).foldl putP [])) ∧ ρ "source" = some (.fz (.dct sr)) ∧ ((t.take i).foldl putP []).length ≤ i) rfl ⟨rfl, .inl rfl⟩ ⟨rfl, .inl rfl⟩ ⟨rfl, rfl, Nat.le_refl _⟩ ?_ ?_
  · rintro i k d ρ g hi ⟨h1, h2, h3⟩
    have hit : i < t.length := (List.getElem?_eq_some_iff.mp hi).1
    refine W_setitem (x := "new_callers") (a := a) (l := (t.take i).foldl putP []) h1 (Ev_name rfl) (Ev_name rfl) (by (first | lia | omega)) (W_nil ⟨?_, h2, ?_⟩)
    · rw [take_succ_foldl _ _ _ hi]; rfl
    · rw [take_succ_foldl _ _ _ hi]; exact Nat.le_trans (putD_len _ _ _) (by (first | lia | omega))
  · rintro ρ ⟨h1, h2, h3⟩
    rw [List.take_length] at h1 h3
    have key : ∀ {P : D → Prop}, (∀ p ∈ t, P p.2) → (∀ p ∈ sr, P p.2) → (∀ e d, P e → P d → P (addD e d)) → (∀ (ρ' : Loc) (g : Addr) (i : Nat) (k : Str) (e d : D) (l : List (Str × D)), ρ' "new_callers" = some (OD w a l) → ρ' "func" = some (.fz (.str k)) → ρ' "caller" = some (.fz d) → lookD l k = some e → P e → P d → l.length ≤ 1000 → ∀ Q, W ((callCx w A 0 fdAC 77 s μ).guard g) (upd ρ' "new_callers" (OD w a (putD l k (addD e d)))) [] Q →
        W ((callCx w A 0 fdAC 77 s μ).guard g) ρ' (bodyOf (stAt (bodyOf (stAt (bodyOf (topSt 5)) 2)) 0)) Q) →
        W (callCx w A 0 fdAC 77 s μ) ρ (bodyOf (topSt 5)).tail.tail (fun o => match o with | .ret d' _ => d' = D.dct (mergeD t sr) | _ => D.dct (mergeD t sr) = .none) := by
      intro P hPt hPs hPa hb
      refine W_for_items (l := sr) (fun i ρ => ρ "new_callers" = some (OD w a ((sr.take i).foldl stepAC (copyD t))) ∧ ((sr.take i).foldl stepAC (copyD t)).length ≤ t.length + i ∧ ∀ p ∈ (sr.take i).foldl stepAC (copyD t), P p.2) h2 ⟨rfl, .inl rfl⟩ ⟨rfl, .inl rfl⟩
        ⟨h1, h3, copyD_all (fun _ h => by cases h) hPt⟩ ?_ ?_
      · rintro i k d ρ1 g hi ⟨g1, g2, g3⟩
        have hit : i < sr.length := (List.getElem?_eq_some_iff.mp hi).1
        have hPd : P d := hPs (k, d) (List.mem_of_getElem? hi)
        have hstep : (sr.take (i + 1)).foldl stepAC (copyD t) = stepAC ((sr.take i).foldl stepAC (copyD t)) (k, d) := take_succ_foldl _ _ _ hi
        have hlen : ((sr.take (i + 1)).foldl stepAC (copyD t)).length ≤ t.length + (i + 1) := by rw [hstep]; exact Nat.le_trans (stepAC_len _ _) (by (first | lia | omega))
        refine W_if (Tst_inOD (a := a) g1 (Ev_name rfl)) (fun hin => ?_) fun hin => ?_
        · obtain ⟨e, he⟩ := Option.isSome_iff_exists.mp hin
          have hPe : P e := lookD_all g3 he
          have hs1 : stepAC ((sr.take i).foldl stepAC (copyD t)) (k, d) = putD ((sr.take i).foldl stepAC (copyD t)) k (addD e d) := stepAC_some he
          refine hb (upd (upd ρ1 "func" (.fz (.str k))) "caller" (.fz d)) g i k e d _ g1 rfl rfl he hPe hPd (by (first | lia | omega)) _ ?_
          refine W_nil (W_nil ⟨?_, hlen, ?_⟩)
          · rw [hstep, hs1]; rfl
          · rw [hstep, hs1]; exact putD_all g3 (hPa e d hPe hPd)
        · have he : lookD ((sr.take i).foldl stepAC (copyD t)) k = none := by simpa using hin
          have hs1 : stepAC ((sr.take i).foldl stepAC (copyD t)) (k, d) = putD ((sr.take i).foldl stepAC (copyD t)) k d := stepAC_none he
          refine W_setitem (x := "new_callers") (a := a) g1 (Ev_name rfl) (Ev_name rfl) (by (first | lia | omega)) (W_nil (W_nil ⟨?_, hlen, ?_⟩))
          · rw [hstep, hs1]; rfl
          · rw [hstep, hs1]; exact putD_all g3 hPd
      · rintro ρ1 ⟨g1, g2, g3⟩
        rw [List.take_length] at g1
        exact W_freezeD (x := "new_callers") g1 (W_ret (Ev_name rfl) rfl)
    rcases hkind with ⟨k1, k2⟩ | ⟨k1, k2⟩
    · refine key (P := intVal) k1 k2 (fun e d he hd => by obtain ⟨i, rfl⟩ := he; obtain ⟨j, rfl⟩ := hd; exact ⟨_, rfl⟩) ?_
      rintro ρ' g i k e d l g1 g2 g3 he ⟨x, rfl⟩ ⟨y, rfl⟩ hl Q hq
      refine W_if (Tst_val (Ev_isTup (Ev_name g3) (.inr ⟨_, rfl⟩) rfl rfl)) (fun h => by cases h) fun _ => ?_
      exact W_augD (x := "new_callers") (a := a) g1 (Ev_name g2) he (Ev_name g3) hl (W_nil hq)
    · refine key (P := pairVal) k1 k2 (fun e d he hd => by obtain ⟨i, j, rfl⟩ := he; obtain ⟨i', j', rfl⟩ := hd; exact ⟨_, _, rfl⟩) ?_
      rintro ρ' g i k e d l g1 g2 g3 he ⟨x1, x2, rfl⟩ ⟨y1, y2, rfl⟩ hl Q hq
      refine W_if (Tst_val (Ev_isTup (Ev_name g3) (.inl rfl) rfl rfl)) (fun _ => ?_) fun h => by cases h
      refine W_setitem (x := "new_callers") (a := a) g1 (Ev_tupzip (xs := [y1, y2]) (ys := [x1, x2]) (Ev_name g3) (Ev_itemOD g1 (Ev_name g2) he) rfl (by simp) rfl rfl rfl rfl rfl (by decide) rfl rfl rfl (by decide) rfl (by decide) (by decide)) (Ev_name g2) hl (W_nil hq)
end Mine
end

noncomputable section -- T5
open PySem PyProof.Rows
set_option maxRecDepth 100000
namespace Mine

structure En where
  a : Int
  b : Int
  c : Int
  d : Int
  cl : List (Str × Int)
noncomputable def En.cls (e : En) : List (Str × D) := e.cl.map fun p => (p.1, .int p.2)
noncomputable def En.D (e : En) : D := .tup [.int e.a, .int e.b, .int e.c, .int e.d, .dct e.cls]

noncomputable def specAFS : List D → D → Prop := fun ds d => ∃ (t s : En), ds = [t.D, s.D] ∧ t.cl.length ≤ 100 ∧ s.cl.length ≤ 100 ∧
  d = .tup [.int (s.a + t.a), .int (s.b + t.b), .int (s.c + t.c), .int (s.d + t.d), .dct (mergeD t.cls s.cls)]

theorem cls_int (l : List (Str × Int)) : ∀ p ∈ (l.map fun p => (p.1, D.int p.2)), intVal p.2 := by
  intro p hp
  obtain ⟨q, _, rfl⟩ := List.mem_map.mp hp
  exact ⟨_, rfl⟩

theorem fn_AFS (w : World) : Fn w (.ref 70) 2 specAFS := by
  refine Fn_intro (fd := fdAFS) (body := bodyOf (topSt 4)) (ps := [Str.ofString "target", Str.ofString "source"]) (by exact mem_lkA rfl) rfl ?_ rfl ?_ (by decide) (by decide) (by decide) rfl rfl rfl rfl rfl ?_
  · exact vs2 fun _ _ => rfl
  · rintro ds d ⟨t, s, rfl, _⟩; rfl
  rintro A μ s ds d ⟨t, sr, rfl, ht, hs, rfl⟩
  refine W_unpack (Ev_name rfl) rfl (by intro x hx; simp [namesOf] at hx; rcases hx with rfl | rfl | rfl | rfl | rfl <;> exact ⟨rfl, .inl rfl⟩) ?_
  refine W_unpack (Ev_name rfl) rfl (by intro x hx; simp [namesOf] at hx; rcases hx with rfl | rfl | rfl | rfl | rfl <;> exact ⟨rfl, .inl rfl⟩) ?_
  refine W_ret (Ev_tup (EvL_cons (Ev_add (Ev_name rfl) (Ev_name rfl)) (EvL_cons (Ev_add (Ev_name rfl) (Ev_name rfl)) (EvL_cons (Ev_add (Ev_name rfl) (Ev_name rfl)) (EvL_cons (Ev_add (Ev_name rfl) (Ev_name rfl))
    (EvL_cons (Ev_call (fn_AC w) (fd := fdAC) (by exact mem_lk (by kernel_rfl)) (by exact mem_lkA rfl) rfl (EvL_cons (Ev_name rfl) (EvL_cons (Ev_name rfl) EvL_nil)) ⟨t.cls, sr.cls, rfl, rfl, ?_, ?_, .inl ⟨cls_int _, cls_int _⟩⟩ (Nat.le_refl _)) EvL_nil))))) ?_) rfl
  · simpa [En.cls] using ht
  · simpa [En.cls] using hs
  · show 5 ≤ sizeLine; rw [sizeLine_eq]; (first | lia | omega)
end Mine
end

noncomputable section -- T6
open PySem PyProof.Rows
set_option maxRecDepth 100000
namespace Mine

theorem putD_new {l : List (Str × D)} {k : Str} {d : D} (h : k ∉ l.map (·.1)) : putD l k d = l ++ [(k, d)] := by
  unfold putD
  rw [if_neg]
  intro hc
  rw [List.any_eq_true] at hc
  obtain ⟨p, hp, e⟩ := hc
  exact h (List.mem_map.mpr ⟨p, hp, by simpa using e⟩)
theorem foldP_nodup : ∀ (l acc : List (Str × D)), ((acc ++ l).map (·.1)).Nodup → l.foldl putP acc = acc ++ l
  | [], acc, _ => by simp
  | x :: l, acc, h => by
    have hx : x.1 ∉ acc.map (·.1) := by
      intro hc
      rw [List.map_append, List.nodup_append] at h
      exact h.2.2 _ hc _ (by simp) rfl
    rw [List.foldl_cons]
    have e : putP acc x = acc ++ [x] := putD_new hx
    rw [e, foldP_nodup l _ (by simpa using h)]
    simp
theorem foldP_id {l : List (Str × D)} (h : (l.map (·.1)).Nodup) : l.foldl putP [] = l := by
  have := foldP_nodup l [] (by simpa using h)
  simpa using this

theorem lookD_mem {l : List (Str × D)} {p : Str × D} (hn : (l.map (·.1)).Nodup) (h : p ∈ l) : lookD l p.1 = some p.2 := by
  induction l with
  | nil => cases h
  | cons x l ih =>
    rw [List.map_cons, List.nodup_cons] at hn
    unfold lookD
    rw [List.find?_cons]
    rcases List.mem_cons.mp h with rfl | h
    · simp
    · have : x.1 ≠ p.1 := fun e => hn.1 (e ▸ List.mem_map.mpr ⟨p, h, rfl⟩)
      simp only [this, decide_false]
      exact ih hn.2 h

noncomputable def En.neg (e : En) (s : Int) : En := ⟨e.a * s, e.b * s, e.c * s, e.d * s, e.cl.map fun p => (p.1, p.2 * s)⟩

noncomputable def specSigned : List D → D → Prop := fun ds d => ∃ (e : En) (sg : Int), ds = [e.D, .int sg] ∧ (sg = 1 ∨ sg = -1) ∧ e.cl.length ≤ 100 ∧ (e.cl.map (·.1)).Nodup ∧ d = (e.neg sg).D

theorem mulOk1 {a s : Int} (h : s = 1 ∨ s = -1) : IntMulOk a s := .of_right (intBits_le_64 (by (first | lia | omega)) (by (first | lia | omega)))

theorem fn_signed (w : World) : Fn w (.ref 174) 1 specSigned := by
  refine Fn_intro (fd := fdSigned) (body := bodyOf (topSt 13)) (ps := [Str.ofString "entry", Str.ofString "sign"]) (by exact mem_lkA rfl) rfl ?_ rfl ?_ (by decide) (by decide) (by decide) rfl rfl rfl rfl rfl ?_
  · exact vs2 fun _ _ => rfl
  · rintro ds d ⟨t, s, rfl, _⟩; rfl
  rintro A μ s ds d ⟨e, sg, rfl, hs, hl, hn, rfl⟩
  have hlk : ∀ (i : Nat) (d : D), (e.cls.map fun p => D.str p.1)[i]? = some d → ∃ k v, d = .str k ∧ lookD e.cls k = some (.int v) := by
    intro i d hd
    obtain ⟨p, h, rfl⟩ := map_get hd
    ·
      have hm := List.mem_of_getElem? h
      have hn' : (e.cls.map (·.1)).Nodup := by unfold En.cls; rw [List.map_map]; exact hn
      have h2 := lookD_mem hn' hm
      obtain ⟨v, hv⟩ := cls_int e.cl p hm
      exact ⟨p.1, v, rfl, by rw [h2, hv]⟩
  refine W_assign_dictcomp (ds := e.cls.map fun p => D.str p.1) (fun d => match d with | .str k => (k, match lookD e.cls k with | some (.int v) => .int (v * sg) | _ => .none) | _ => (⟨#[]⟩, .none)) (EvV_sub (P2 := isD _ (.int 4)) (Ev_name rfl) Ev_int (.isD _) (.itemT rfl (by decide) (by decide) rfl)) Itb.keys (fun C s μ i d hd => ?_) ?_ rfl rfl (by decide) rfl rfl (by decide) ⟨rfl, .inl rfl⟩ rfl ?_
  · obtain ⟨k, v, rfl, hv⟩ := hlk i d hd
    refine ⟨Ev_name compLoc_x, ?_⟩
    simp only [hv]
    refine Ev_mul (EvV_sub (P2 := isD _ (.str k)) (EvV_sub (P2 := isD _ (.int 4)) (Ev_name (compLoc_free rfl rfl rfl)) Ev_int (.isD _) (.itemT rfl (by decide) (by decide) rfl)) (Ev_name compLoc_x) (.isD _) (.itemD rfl hv)) (Ev_name (compLoc_free rfl rfl rfl)) (mulOk1 hs)
  · rw [List.length_map, En.cls, List.length_map, sizeLine_eq]; (first | lia | omega)
  · refine W_ret (Ev_tup (EvL_cons (Ev_mul (EvV_sub (P2 := isD _ (.int 0)) (Ev_name rfl) Ev_int (.isD _) (.itemT rfl (by decide) (by decide) rfl)) (Ev_name rfl) (mulOk1 hs))
      (EvL_cons (Ev_mul (EvV_sub (P2 := isD _ (.int 1)) (Ev_name rfl) Ev_int (.isD _) (.itemT rfl (by decide) (by decide) rfl)) (Ev_name rfl) (mulOk1 hs))
      (EvL_cons (Ev_mul (EvV_sub (P2 := isD _ (.int 2)) (Ev_name rfl) Ev_int (.isD _) (.itemT rfl (by decide) (by decide) rfl)) (Ev_name rfl) (mulOk1 hs))
      (EvL_cons (Ev_mul (EvV_sub (P2 := isD _ (.int 3)) (Ev_name rfl) Ev_int (.isD _) (.itemT rfl (by decide) (by decide) rfl)) (Ev_name rfl) (mulOk1 hs))
      (EvL_cons (Ev_name rfl) EvL_nil))))) ?_) ?_
    · show 5 ≤ sizeLine; rw [sizeLine_eq]; (first | lia | omega)
    · show D.tup _ = D.tup _
      have : (List.map (fun d => match d with | .str k => (k, match lookD e.cls k with | some (.int v) => D.int (v * sg) | _ => .none) | _ => (⟨#[]⟩, .none)) (e.cls.map fun p => D.str p.1)) = (e.neg sg).cls := by
        unfold En.cls En.neg
        rw [List.map_map, List.map_map, List.map_map]
        refine List.map_congr_left fun p hp => ?_
        have hn' : (e.cls.map (·.1)).Nodup := by unfold En.cls; rw [List.map_map]; exact hn
        have h2 : lookD e.cls p.1 = some (.int p.2) := lookD_mem hn' (p := (p.1, .int p.2)) (List.mem_map.mpr ⟨p, hp, rfl⟩)
        unfold En.cls at h2
        simp only [Function.comp, h2]
      rw [this, foldP_id]
      · rfl
      · unfold En.cls En.neg; rw [List.map_map, List.map_map]; exact hn
end Mine
end

noncomputable section -- T7
open PySem PyProof.Rows
set_option maxRecDepth 100000
namespace Mine

structure WS where
  count : List Int
  b : Int
  n : Int
  nt : Int
noncomputable def wsGrow (l : List Int) (b : Int) : List Int := if b ≥ (l.length : Int) then l ++ List.replicate (b - l.length + 1).toNat 0 else l
noncomputable def wsStep (w : WS) (c : Nat) : Option WS :=
  if c = 32 then some ⟨w.count, w.b + 1, w.n + 1, w.nt⟩
  else if c = 9 then some ⟨(wsGrow w.count w.b).set w.b.toNat ((wsGrow w.count w.b).getD w.b.toNat 0 + 1), 0, w.n + 1, w.nt + 1⟩
  else none
noncomputable def wsRun (w : WS) : List Nat → WS
  | [] => w
  | c :: r => match wsStep w c with
    | some w' => wsRun w' r
    | none => w
noncomputable def wsOf (cs : List Nat) : WS := wsRun ⟨[], 0, 0, 0⟩ cs
noncomputable def wsD (x : Str) (w : WS) : List (Str × D) :=
  [("raw", .str x), ("n", .int w.n), ("nt", .int w.nt), ("norm", .tup [.tup (w.count.map .int), .int w.b]), ("is_simple", .bool (decide ((w.count.length : Int) ≤ 1)))]

noncomputable def orelseOf : Stmt → List Stmt
  | .If _ _ o _ => o
  | _ => []
theorem drop_get {α : Type} {l : List α} {i : Nat} {x : α} (h : l[i]? = some x) : l.drop i = x :: l.drop (i + 1) := by
  obtain ⟨h1, h2⟩ := List.getElem?_eq_some_iff.mp h
  rw [List.drop_eq_getElem_cons h1, h2]

theorem rep_flat (k : Nat) : (List.replicate k [D.int 0]).flatten = (List.replicate k (0 : Int)).map .int := by
  induction k with
  | zero => rfl
  | succ k ih => rw [List.replicate_succ, List.flatten_cons, ih, List.replicate_succ]; rfl

theorem wsGrow_len {l : List Int} {b : Int} (hb : 0 ≤ b) : b < (wsGrow l b).length ∧ (wsGrow l b).length ≤ max l.length (b.toNat + 1) := by
  unfold wsGrow
  split
  · simp; (first | lia | omega)
  · (first | lia | omega)

theorem fn_WInit (w : World) (cs : List Nat) (hcs : cs.length ≤ 100) (a dd : Addr) : FnO w (.ref 94) 1 [a, dd] (oiR w a dd 139 []) (oiR w a dd 139 (wsD (S cs) (wsOf cs))) [.str (S cs)] .none := by
  refine FnO_intro (fd := fdWInit) (body := bodyOf (subSt 7 1)) (p0 := Str.ofString "self") (ps := [Str.ofString "ws"]) (v0 := .ref a) (by exact mem_lkA rfl) rfl ?_ rfl rfl (by decide) (by decide) (by decide) (by decide) rfl rfl rfl rfl rfl oiR_stable oiR_stable (fun _ _ _ r => r.1) (fun _ _ _ r => r.1) ?_
  · exact vs2 fun _ _ => rfl
  intro A μ s
  refine W_setattr (l := []) (a := a) (dd := dd) (C := 139) (N := 138) (tab := wsTab) rfl (Ev_name rfl) (by exact mem_lkA rfl) (by exact mem_lk (by kernel_rfl)) (by exact mem_lk (by kernel_rfl)) lk_raw (by simp) ?_
  refine W_swap (names := [Str.ofString "S", Str.ofString "T"]) (Ev_tup (EvL_cons (Ev_wsS rfl) (EvL_cons (Ev_wsT rfl) EvL_nil))) rfl (by intro x hx; simp at hx; rcases hx with rfl | rfl <;> exact ⟨rfl, .inl rfl⟩) ?_
  refine W_newlist ⟨rfl, .inl rfl⟩ fun a0 => ?_
  refine W_assign3 Ev_int ⟨rfl, .inl rfl⟩ ⟨rfl, .inl rfl⟩ ⟨rfl, .inl rfl⟩ ?_
  have rest : ∀ (ρ : Loc) (u : WS) (a1 : Addr), ρ "self" = some (OI w a dd 139 [("raw", .str (S cs))]) → ρ "count" = some (OL w a1 (u.count.map .int)) → ρ "b" = some (.fz (.int u.b)) → ρ "n" = some (.fz (.int u.n)) → ρ "nt" = some (.fz (.int u.nt)) →
      u.count.length ≤ 100 → wsOf cs = u →
      W (callCxS w A 0 fdWInit 94 s μ [a, dd]) ρ (bodyOf (subSt 7 1)).tail.tail.tail.tail.tail (fun o => match o with | .ret d' ρ' => d' = D.none ∧ ρ' "self" = some (.own [a, dd] (oiR w a dd 139 (wsD (S cs) (wsOf cs)))) | .next ρ' => D.none = .none ∧ ρ' "self" = some (.own [a, dd] (oiR w a dd 139 (wsD (S cs) (wsOf cs)))) | _ => False) := by
    intro ρ u a1 h1 h2 h3 h4 h5 hl hu
    have hS : ∀ b, (callCxS w A 0 fdWInit 94 s μ [a, dd]).S b → ∃ y k, y ≠ Str.ofString "count" ∧ ρ y = some k ∧ b ∈ k.adr := fun b hb => ⟨Str.ofString "self", _, by decide, h1, hb⟩
    refine W_freezeL (x := "count") h2 ?_ hS
    refine W_setattr (l := [("raw", .str (S cs))]) (a := a) (dd := dd) (C := 139) (N := 138) (tab := wsTab) h1 (Ev_name h4) (by exact mem_lkA rfl) (by exact mem_lk (by kernel_rfl)) (by exact mem_lk (by kernel_rfl)) lk_n (by simp) ?_
    refine W_setattr (a := a) (dd := dd) (C := 139) (N := 138) (tab := wsTab) rfl (Ev_name h5) (by exact mem_lkA rfl) (by exact mem_lk (by kernel_rfl)) (by exact mem_lk (by kernel_rfl)) lk_nt (by show (1 + 1) ≤ 1000; (first | lia | omega)) ?_
    refine W_setattr (a := a) (dd := dd) (C := 139) (N := 138) (tab := wsTab) rfl (Ev_tup (EvL_cons (EvV_t1 (Ev_name (d := .lst (u.count.map .int)) rfl) (.tupP (fun _ _ _ => lsP.fz) (by simp; (first | lia | omega))) (by decide) boot_tuple rfl) (EvL_cons (Ev_name h3) EvL_nil)) (by show 2 ≤ sizeLine; rw [sizeLine_eq]; (first | lia | omega))) (by exact mem_lkA rfl) (by exact mem_lk (by kernel_rfl)) (by exact mem_lk (by kernel_rfl)) lk_norm (by show (1 + 1 + 1) ≤ 1000; (first | lia | omega)) ?_
    refine W_setattr (a := a) (dd := dd) (C := 139) (N := 138) (tab := wsTab) rfl (EvV_cmp (EvV_b1 (Ev_name (d := .lst (u.count.map .int)) rfl) (.lenL (by simp; (first | lia | omega))) (by decide) boot_len rfl) Ev_int (.isD _) .le) (by exact mem_lkA rfl) (by exact mem_lk (by kernel_rfl)) (by exact mem_lk (by kernel_rfl)) lk_is_simple (by show (1 + 1 + 1 + 1) ≤ 1000; (first | lia | omega)) (W_nil ⟨rfl, ?_⟩)
    rw [hu]
    show some (OI w a dd 139 _) = some (OI w a dd 139 _)
    congr 2
    show _ = wsD (S cs) u
    unfold wsD
    rw [← List.length_map (f := D.int)]
    rfl
  have hlen : (signs (S cs)).length = cs.length := by simp [signs, S_cps]
  refine W_for (ds := signs (S cs)) (fun i ρ => ∃ (u : WS) (a1 : Addr), wsOf cs = wsRun u (cs.drop i) ∧ ρ "self" = some (OI w a dd 139 [("raw", .str (S cs))]) ∧ ρ "count" = some (OL w a1 (u.count.map .int)) ∧ ρ "b" = some (.fz (.int u.b)) ∧ ρ "n" = some (.fz (.int u.n)) ∧ ρ "nt" = some (.fz (.int u.nt)) ∧
      ρ "S" = some (.fz (.str (Str.ofString " "))) ∧ ρ "T" = some (.fz (.str (Str.ofString "\t"))) ∧ u.count.length ≤ i ∧ 0 ≤ u.b ∧ u.b ≤ i) (Ev_attrO (l := [("raw", .str (S cs))]) (a := a) (dd := dd) (C := 139) (N := 138) (tab := wsTab) rfl (by exact mem_lkA rfl) (by exact mem_lk (by kernel_rfl)) (by exact mem_lk (by kernel_rfl)) lk_raw rfl) Itb.str ⟨rfl, .inl rfl⟩
      ⟨⟨[], 0, 0, 0⟩, a0, rfl, rfl, rfl, rfl, rfl, rfl, rfl, rfl, Nat.le_refl _, Int.le_refl _, Int.le_refl _⟩ ?_ ?_
  · rintro i d ρ g hd ⟨u, a1, hu, h1, h2, h3, h4, h5, h6, h7, hl, hb0, hbi⟩
    obtain ⟨n, hn, rfl⟩ := signs_get hd
    rw [S_cps] at hn
    have hi : i < cs.length := (List.getElem?_eq_some_iff.mp hn).1
    rw [drop_get hn] at hu
    refine W_if (Tst_cmp (Ev_name rfl) (Ev_name h6) (.isD _) .eqS) (fun hb => ?_) fun hb => ?_
    · have e : n = 32 := one_sign hb
      have hst : wsStep u n = some ⟨u.count, u.b + 1, u.n + 1, u.nt⟩ := by unfold wsStep; rw [if_pos e]
      refine W_assign (Ev_add (Ev_name h4) Ev_int) ⟨rfl, .inl rfl⟩ (W_assign (Ev_add (Ev_name h3) Ev_int) ⟨rfl, .inl rfl⟩ (W_nil (W_nil ⟨⟨u.count, u.b + 1, u.n + 1, u.nt⟩, a1, ?_, h1, h2, rfl, rfl, h5, h6, h7, by show u.count.length ≤ _; (first | lia | omega), by show 0 ≤ u.b + 1; (first | lia | omega), by show u.b + 1 ≤ _; (first | lia | omega)⟩)))
      rw [hu, wsRun, hst]
    · have e : n ≠ 32 := one_sign_ne hb
      refine W_if (Tst_cmp (Ev_name rfl) (Ev_name h7) (.isD _) .eqS) (fun hb => ?_) fun hb => ?_
      · have e9 : n = 9 := one_sign hb
        have hst : wsStep u n = some ⟨(wsGrow u.count u.b).set u.b.toNat ((wsGrow u.count u.b).getD u.b.toNat 0 + 1), 0, u.n + 1, u.nt + 1⟩ := by unfold wsStep; rw [if_neg e, if_pos e9]
        have hg := wsGrow_len (l := u.count) hb0
        have fin : ∀ (ρ' : Loc) (a2 : Addr), ρ' "self" = some (OI w a dd 139 [("raw", .str (S cs))]) → ρ' "count" = some (OL w a2 ((wsGrow u.count u.b).map .int)) → ρ' "b" = some (.fz (.int u.b)) → ρ' "n" = some (.fz (.int (u.n + 1))) → ρ' "nt" = some (.fz (.int (u.nt + 1))) → ρ' "S" = some (.fz (.str (Str.ofString " "))) → ρ' "T" = some (.fz (.str (Str.ofString "\t"))) → ∀ Q,
            (∀ ρ'', (∃ (u : WS) (a1 : Addr), wsOf cs = wsRun u (cs.drop (i + 1)) ∧ ρ'' "self" = some (OI w a dd 139 [("raw", .str (S cs))]) ∧ ρ'' "count" = some (OL w a1 (u.count.map .int)) ∧ ρ'' "b" = some (.fz (.int u.b)) ∧ ρ'' "n" = some (.fz (.int u.n)) ∧ ρ'' "nt" = some (.fz (.int u.nt)) ∧
              ρ'' "S" = some (.fz (.str (Str.ofString " "))) ∧ ρ'' "T" = some (.fz (.str (Str.ofString "\t"))) ∧ u.count.length ≤ i + 1 ∧ 0 ≤ u.b ∧ u.b ≤ ((i + 1 : Nat) : Int)) → Q (.next ρ'')) →
            W ((callCxS w A 0 fdWInit 94 s μ [a, dd]).guard g) ρ' ((bodyOf (stAt (orelseOf (stAt (bodyOf (stAt (bodyOf (subSt 7 1)) 4)) 0)) 0)).drop 3) Q := by
          intro ρ' a2 k1 k2 k3 k4 k5 k6 k7 Q hQ
          refine W_setitemL (x := "count") (a := a2) (l := (wsGrow u.count u.b).map .int) (k := u.b) k2 (Ev_add (EvV_sub (EvV_name k2) (Ev_name k3) (SP.lv k2) (.itemP (d := .int ((wsGrow u.count u.b).getD u.b.toNat 0)) (fun μ h v r => lsP.ol (show olR w a2 _ μ h v from r)) rfl hb0 (by (first | lia | omega)) ?_)) Ev_int) (Ev_name k3) hb0 (by rw [List.length_map]; (first | lia | omega)) (by rw [List.length_map]; (first | lia | omega)) ?_
          · rw [List.getElem?_map, List.getElem?_eq_getElem (by (first | lia | omega))]
            simp [List.getD_eq_getElem?_getD, List.getElem?_eq_getElem (show u.b.toNat < (wsGrow u.count u.b).length by (first | lia | omega))]
          · refine W_assign Ev_int ⟨rfl, .inl rfl⟩ (W_nil (hQ _ ⟨⟨(wsGrow u.count u.b).set u.b.toNat ((wsGrow u.count u.b).getD u.b.toNat 0 + 1), 0, u.n + 1, u.nt + 1⟩, a2, ?_, k1, ?_, rfl, k4, k5, k6, k7, ?_, Int.le_refl _, ?_⟩))
            · rw [hu, wsRun, hst]
            · show some (OL w a2 _) = some (OL w a2 _)
              rw [List.map_set]
            · rw [List.length_set]; (first | lia | omega)
            · show (0 : Int) ≤ _; (first | lia | omega)
        refine W_assign (Ev_add (Ev_name h4) Ev_int) ⟨rfl, .inl rfl⟩ (W_assign (Ev_add (Ev_name h5) Ev_int) ⟨rfl, .inl rfl⟩ ?_)
        have hz : ∀ Q ρ1, ρ1 = (upd (upd (upd ρ "ch" (.fz (.str ⟨#[n]⟩))) "n" (.fz (.int (u.n + 1)))) "nt" (.fz (.int (u.nt + 1)))) → (∀ ρ'', (∃ (u : WS) (a1 : Addr), wsOf cs = wsRun u (cs.drop (i + 1)) ∧ ρ'' "self" = some (OI w a dd 139 [("raw", .str (S cs))]) ∧ ρ'' "count" = some (OL w a1 (u.count.map .int)) ∧ ρ'' "b" = some (.fz (.int u.b)) ∧ ρ'' "n" = some (.fz (.int u.n)) ∧ ρ'' "nt" = some (.fz (.int u.nt)) ∧
              ρ'' "S" = some (.fz (.str (Str.ofString " "))) ∧ ρ'' "T" = some (.fz (.str (Str.ofString "\t"))) ∧ u.count.length ≤ i + 1 ∧ 0 ≤ u.b ∧ u.b ≤ ((i + 1 : Nat) : Int)) → Q (.next ρ'')) →
            W ((callCxS w A 0 fdWInit 94 s μ [a, dd]).guard g) ρ1 ((bodyOf (stAt (orelseOf (stAt (bodyOf (stAt (bodyOf (subSt 7 1)) 4)) 0)) 0)).drop 2) Q := by
          intro Q ρ1 hρ1 hQ
          have g1 : ρ1 "self" = some (OI w a dd 139 [("raw", .str (S cs))]) := by rw [hρ1]; exact h1
          have g2 : ρ1 "count" = some (OL w a1 (u.count.map .int)) := by rw [hρ1]; exact h2
          have g3 : ρ1 "b" = some (.fz (.int u.b)) := by rw [hρ1]; exact h3
          have g4 : ρ1 "n" = some (.fz (.int (u.n + 1))) := by rw [hρ1]; rfl
          have g5 : ρ1 "nt" = some (.fz (.int (u.nt + 1))) := by rw [hρ1]; rfl
          have g6 : ρ1 "S" = some (.fz (.str (Str.ofString " "))) := by rw [hρ1]; exact h6
          have g7 : ρ1 "T" = some (.fz (.str (Str.ofString "\t"))) := by rw [hρ1]; exact h7
          clear hρ1 h1 h2 h3 h4 h5 h6 h7
          refine W_if (Tst_cmp (Ev_name g3) (EvV_b1 (EvV_name (l := OL w a1 (u.count.map .int)) g2) (.lenP (ds := u.count.map .int) (by rw [List.length_map]; (first | lia | omega)) (fun μ h v r => lsP.ol (show olR w a1 _ μ h v from r))) (by decide) boot_len rfl) (.isD _) .ge) (fun hb => ?_) fun hb => ?_
          · rw [List.length_map, decide_eq_true_eq] at hb
            refine W_assignF (EvF_cat (ds1 := u.count.map .int) (ds2 := (List.replicate (u.b - ((u.count.map D.int).length : Nat) + 1).toNat [D.int 0]).flatten) (EvV_name (l := OL w a1 (u.count.map .int)) g2) (EvF_mul (ds := [.int 0]) (k := u.b - ((u.count.map D.int).length : Nat) + 1) (EvF_lst (EvL_cons Ev_int EvL_nil)).ev (Ev_add (Ev_sub (Ev_name g3) (EvV_b1 (EvV_name (l := OL w a1 (u.count.map .int)) g2) (.lenP (ds := u.count.map .int) (by rw [List.length_map]; (first | lia | omega)) (fun μ h v r => lsP.ol (show olR w a1 _ μ h v from r))) (by decide) boot_len rfl)) Ev_int) (.isD _) (fun _ _ _ => lsP.fz) (by simp) (by rw [List.length_map]; simp; (first | lia | omega)) (by rw [List.length_map]; (first | lia | omega))).ev (SP.lv g2) (fun μ h v r => lsP.ol (show olR w a1 _ μ h v from r)) (fun _ _ _ => lsP.fz) (by rw [List.length_map, rep_flat, List.length_map, List.length_replicate, sizeLine_eq]; (first | lia | omega))) ⟨rfl, .inl rfl⟩ fun a2 => W_nil ?_
            refine fin (upd ρ1 "count" (OL w a2 (u.count.map D.int ++ (List.replicate (u.b - ((u.count.map D.int).length : Nat) + 1).toNat [D.int 0]).flatten))) a2 g1 ?_ g3 g4 g5 g6 g7 _ fun ρ'' hρ => hQ _ hρ
            show some (OL w a2 _) = some (OL w a2 _)
            rw [rep_flat, ← List.map_append]
            unfold wsGrow
            rw [if_pos (by (first | lia | omega)), List.length_map]
          · rw [List.length_map, decide_eq_false_iff_not] at hb
            refine W_nil (fin _ a1 g1 ?_ g3 g4 g5 g6 g7 _ fun ρ'' hρ => hQ _ hρ)
            show ρ1 "count" = some (OL w a1 _)
            unfold wsGrow
            rw [if_neg (by (first | lia | omega))]; exact g2
        exact hz _ _ rfl fun ρ'' hρ => W_nil (W_nil hρ)
      · have e9 : n ≠ 9 := one_sign_ne hb
        have hst : wsStep u n = none := by unfold wsStep; rw [if_neg e, if_neg e9]
        refine W_break ?_
        refine rest _ u a1 h1 h2 h3 h4 h5 (by (first | lia | omega)) ?_
        rw [hu, wsRun, hst]
  · rintro ρ ⟨u, a1, hu, h1, h2, h3, h4, h5, h6, h7, hl, hb0, hbi⟩
    rw [hlen] at hu hl
    refine rest ρ u a1 h1 h2 h3 h4 h5 (by (first | lia | omega)) ?_
    rw [hu, List.drop_length]; rfl
end Mine
end

noncomputable section -- T8
open PySem PyProof.Rows
set_option maxRecDepth 100000
namespace Mine

noncomputable def longF (u : WS) : Int := if u.b > (u.count.length : Int) - 1 then u.b else (u.count.length : Int) - 1
noncomputable def specLong : List D → D → Prop := fun ds d => ∃ (x : Str) (u : WS), ds = [.inst 139 (wsD x u)] ∧ u.count.length ≤ 100 ∧ d = .int (longF u)

theorem fn_longest (w : World) : Fn w (.ref 101) 1 specLong := by
  refine Fn_intro (fd := fdLongest) (body := bodyOf (subSt 7 2)) (ps := [Str.ofString "self"]) (by exact mem_lkA rfl) rfl ?_ rfl ?_ (by decide) (by decide) (by decide) rfl rfl rfl rfl rfl ?_
  · exact vs1 fun _ => rfl
  · rintro ds d ⟨t, s, rfl, _⟩; rfl
  rintro A μ s ds d ⟨x, u, rfl, hl, rfl⟩
  refine W_unpack (ds := [.tup (u.count.map .int), .int u.b]) (Ev_attr (l := wsD x u) (C := 139) (N := 138) (tab := wsTab) (Ev_name rfl) (by exact mem_lkA rfl) (by exact mem_lk (by kernel_rfl)) (by exact mem_lk (by kernel_rfl)) lk_norm rfl) rfl (by intro x hx; simp [namesOf] at hx; rcases hx with rfl | rfl <;> exact ⟨rfl, .inl rfl⟩) ?_
  refine W_ret (EvV_b2 (Ev_sub (EvV_b1 (Ev_name (d := .tup (u.count.map .int)) rfl) (.lenT (by rw [List.length_map]; (first | lia | omega))) (by decide) boot_len rfl) Ev_int) (Ev_name rfl) (.isD _) .max (by decide) boot_max rfl) ?_
  show D.int _ = D.int (longF u)
  unfold longF
  rw [List.length_map]

noncomputable def ilStep (u : WS) (ts : Int) (il : Int) (j : Nat) : Int := il + (ts + j).fdiv ts * u.count.getD (ts + j).toNat 0
noncomputable def indF (u : WS) (ts : Int) : Int := u.b + ts * ((List.range ((u.count.length : Int) - ts).toNat).foldl (ilStep u ts) 0 + u.nt)
noncomputable def specIndent : List D → D → Prop := fun ds d => ∃ (x : Str) (u : WS) (ts : Int), ds = [.inst 139 (wsD x u), .int ts] ∧ u.count.length ≤ 100 ∧ 0 < ts ∧ ts ≤ 1000 ∧ d = .int (indF u ts)

theorem mulL {a b : Int} (h1 : -(2 ^ 63) ≤ a) (h2 : a < 2 ^ 63) : IntMulOk a b := .of_left (intBits_le_64 (by (first | lia | omega)) (by (first | lia | omega)))

theorem fn_indent (w : World) : Fn w (.ref 108) 1 specIndent := by
  refine Fn_intro (fd := fdIndent) (body := bodyOf (subSt 7 3)) (ps := [Str.ofString "self", Str.ofString "tabsize"]) (by exact mem_lkA rfl) rfl ?_ rfl ?_ (by decide) (by decide) (by decide) rfl rfl rfl rfl rfl ?_
  · exact vs2 fun _ _ => rfl
  · rintro ds d ⟨t, s, ts, rfl, _⟩; rfl
  rintro A μ s ds d ⟨x, u, ts, rfl, hl, ht0, ht1, rfl⟩
  refine W_unpack (ds := [.tup (u.count.map .int), .int u.b]) (Ev_attr (l := wsD x u) (C := 139) (N := 138) (tab := wsTab) (Ev_name rfl) (by exact mem_lkA rfl) (by exact mem_lk (by kernel_rfl)) (by exact mem_lk (by kernel_rfl)) lk_norm rfl) rfl (by intro x hx; simp [namesOf] at hx; rcases hx with rfl | rfl <;> exact ⟨rfl, .inl rfl⟩) ?_
  refine W_assign Ev_int ⟨rfl, .inl rfl⟩ ?_
  refine W_for (fun i ρ => ρ "il" = some (.fz (.int ((List.range i).foldl (ilStep u ts) 0))) ∧ ρ "count" = some (.fz (.tup (u.count.map .int))) ∧ ρ "trailing" = some (.fz (.int u.b)) ∧ ρ "self" = some (.fz (.inst 139 (wsD x u))) ∧ ρ "tabsize" = some (.fz (.int ts)))
    (EvV_t2 (Ev_name (d := .int ts) rfl) (EvV_b1 (Ev_name (d := .tup (u.count.map .int)) rfl) (.lenT (by rw [List.length_map]; (first | lia | omega))) (by decide) boot_len rfl) (.isD _) .rng (by decide) boot_range rfl) (Itb.rng (by (first | lia | omega)) (by (first | lia | omega)) (by (first | lia | omega)) (by rw [List.length_map]; (first | lia | omega))) ⟨rfl, .inl rfl⟩ ⟨rfl, rfl, rfl, rfl, rfl⟩ ?_ ?_
  · rintro i d ρ g hd ⟨h1, h2, h3, h4, h5⟩
    obtain ⟨hi, rfl⟩ := rngD_get hd
    rw [List.length_map] at hi
    have hfd : 0 ≤ (ts + (i : Int)).fdiv ts ∧ (ts + (i : Int)).fdiv ts ≤ 1000 := by
      rw [Int.fdiv_eq_ediv_of_nonneg _ (Int.le_of_lt ht0)]
      refine ⟨Int.ediv_nonneg (by (first | lia | omega)) (by (first | lia | omega)), ?_⟩
      exact Int.le_trans (Int.ediv_le_self _ (by (first | lia | omega))) (by (first | lia | omega))
    refine W_assign (Ev_add (Ev_name h1) (Ev_mul (Ev_fdiv (Ev_name (d := .int (ts + i)) rfl) (Ev_name h5) ht0 (by (first | lia | omega))) (EvV_sub (P2 := isD _ (.int (ts + i))) (Ev_name h2) (Ev_name rfl) (.isD _) (.itemT (d := .int (u.count.getD (ts + i).toNat 0)) rfl (by (first | lia | omega)) (by (first | lia | omega)) ?_)) (mulL (by (first | lia | omega)) (by (first | lia | omega))))) ⟨rfl, .inl rfl⟩ (W_nil ⟨?_, h2, h3, h4, h5⟩)
    · rw [List.getElem?_map, List.getElem?_eq_getElem (by (first | lia | omega))]
      simp [List.getD_eq_getElem?_getD, List.getElem?_eq_getElem (show (ts + (i : Int)).toNat < u.count.length by (first | lia | omega))]
    · rw [List.range_succ, List.foldl_append]; rfl
  · rintro ρ ⟨h1, h2, h3, h4, h5⟩
    rw [rngD_len, List.length_map] at h1
    refine W_ret (Ev_add (Ev_name h3) (Ev_mul (Ev_name h5) (Ev_add (Ev_name h1) (Ev_attr (l := wsD x u) (C := 139) (N := 138) (tab := wsTab) (Ev_name h4) (by exact mem_lkA rfl) (by exact mem_lk (by kernel_rfl)) (by exact mem_lk (by kernel_rfl)) lk_nt rfl)) (mulL (by (first | lia | omega)) (by (first | lia | omega))))) rfl

noncomputable def simpF (u : WS) : Bool := decide ((u.count.length : Int) ≤ 1)
noncomputable def lessN (u v : WS) : Int := (if longF v > longF u then longF v else longF u) + 1
noncomputable def lessF (u v : WS) : Bool :=
  if v.n ≤ u.n then false
  else if simpF u && simpF v then decide (u.nt ≤ v.nt)
  else (List.range (lessN u v + 1 - 2).toNat).all fun j => decide (indF u (2 + j) < indF v (2 + j))
noncomputable def wsOk (u : WS) : Prop := u.count.length ≤ 100 ∧ u.b ≤ 100
noncomputable def specLess : List D → D → Prop := fun ds d => ∃ (x : Str) (u : WS) (y : Str) (v : WS), ds = [.inst 139 (wsD x u), .inst 139 (wsD y v)] ∧ wsOk u ∧ wsOk v ∧ d = .bool (lessF u v)

theorem fn_less (w : World) : Fn w (.ref 129) 2 specLess := by
  refine Fn_intro (fd := fdLess) (body := bodyOf (subSt 7 6)) (ps := [Str.ofString "self", Str.ofString "other"]) (by exact mem_lkA rfl) rfl ?_ rfl ?_ (by decide) (by decide) (by decide) rfl rfl rfl rfl rfl ?_
  · exact vs2 fun _ _ => rfl
  · rintro ds d ⟨x, u, y, v, rfl, _⟩; rfl
  rintro A μ s ds d ⟨x, u, y, v, rfl, hu, hv, rfl⟩
  have at1 : ∀ {c : Cx} {ρ : Loc} {z : Str} {p q : Pos} {name : Str} {x : Str} {u : WS} {d : D}, ρ z = some (.fz (.inst 139 (wsD x u))) → (name, none) ∈ wsTab → typeLookup (.type "object") name = pure none → lookD (wsD x u) name = some d →
      (eval (.Attribute (.Name z p) name q) c.env = (do
        let o' ← eval (.Name z p) c.env
        standAt q.atName
        let r ← holding [o'] (getAttr o' name true)
        letTemporaryGo (.Name z p) o' r
        pure r)) → Ev c ρ (.Attribute (.Name z p) name q) d := fun h1 h2 h3 h4 h5 => Ev_attr (C := 139) (N := 138) (tab := wsTab) (Ev_name h1) (by exact mem_lkA rfl) (by exact mem_lk (by kernel_rfl)) h2 h3 h4 h5
  refine W_if (Tst_cmp (at1 (z := "self") (name := "n") (x := x) (u := u) rfl (by exact mem_lk (by kernel_rfl)) lk_n rfl (by with_unfolding_all rfl)) (at1 (z := "other") (name := "n") (x := y) (u := v) rfl (by exact mem_lk (by kernel_rfl)) lk_n rfl (by with_unfolding_all rfl)) (.isD _) .ge) (fun hb => ?_) fun hb => W_end ?_
  · rw [decide_eq_true_eq] at hb
    refine W_ret Ev_bool ?_
    show D.bool _ = D.bool _
    unfold lessF; rw [if_pos hb]
  rw [decide_eq_false_iff_not] at hb
  refine W_if (allTrue_and (b1 := simpF u) (b2 := simpF v) (Tst_val (at1 (z := "self") (name := "is_simple") (x := x) (u := u) rfl (by exact mem_lk (by kernel_rfl)) lk_is_simple rfl (by with_unfolding_all rfl))) fun _ => Tst_val (at1 (z := "other") (name := "is_simple") (x := y) (u := v) rfl (by exact mem_lk (by kernel_rfl)) lk_is_simple rfl (by with_unfolding_all rfl))) (fun hs => ?_) fun hs => W_end ?_
  · refine W_ret (EvV_cmp (at1 (z := "self") (name := "nt") (x := x) (u := u) rfl (by exact mem_lk (by kernel_rfl)) lk_nt rfl (by with_unfolding_all rfl)) (at1 (z := "other") (name := "nt") (x := y) (u := v) rfl (by exact mem_lk (by kernel_rfl)) lk_nt rfl (by with_unfolding_all rfl)) (.isD _) .le) ?_
    show D.bool _ = D.bool _
    unfold lessF; rw [if_neg hb, if_pos hs]
  have hN : -10 ≤ lessN u v ∧ lessN u v ≤ 200 := by
    obtain ⟨a1, a2⟩ := hu
    obtain ⟨b1, b2⟩ := hv
    unfold lessN longF
    repeat' split
    all_goals (first | lia | omega)
  refine W_assign (Ev_add (EvV_b2 (P1 := isD w (.int (longF u))) (P2 := isD w (.int (longF v)))
      (Ev_meth0 (C := 139) (N := 138) (tab := wsTab) (l := wsD x u) (Ev_name rfl) (by exact mem_lkA rfl) (by exact mem_lk (by kernel_rfl)) (by exact mem_lk (by kernel_rfl)) (by exact mem_lk (by kernel_rfl)) (f := 101) (fd := fdLongest) (by exact mem_lkA rfl) lk_longest rfl (fn_longest w) ⟨x, u, rfl, hu.1, rfl⟩ (Nat.le_refl _))
      (Ev_meth0 (C := 139) (N := 138) (tab := wsTab) (l := wsD y v) (Ev_name rfl) (by exact mem_lkA rfl) (by exact mem_lk (by kernel_rfl)) (by exact mem_lk (by kernel_rfl)) (by exact mem_lk (by kernel_rfl)) (f := 101) (fd := fdLongest) (by exact mem_lkA rfl) lk_longest rfl (fn_longest w) ⟨y, v, rfl, hv.1, rfl⟩ (Nat.le_refl _))
      (.isD _) .max (by decide) boot_max rfl) Ev_int) ⟨rfl, .inl rfl⟩ ?_
  refine W_for (fun i ρ => ρ "self" = some (.fz (.inst 139 (wsD x u))) ∧ ρ "other" = some (.fz (.inst 139 (wsD y v))) ∧ ∀ j, j < i → indF u (2 + j) < indF v (2 + j))
    (EvV_t2 Ev_int (Ev_add (Ev_name (d := .int (lessN u v)) rfl) Ev_int) (.isD _) .rng (by decide) boot_range rfl) (Itb.rng (by (first | lia | omega)) (by (first | lia | omega)) (by (first | lia | omega)) (by (first | lia | omega))) ⟨rfl, .inl rfl⟩ ⟨rfl, rfl, fun j hj => absurd hj (Nat.not_lt_zero _)⟩ ?_ ?_
  · rintro i d ρ g hd ⟨h1, h2, h3⟩
    obtain ⟨hi, rfl⟩ := rngD_get hd
    refine W_if (Tst_cmp (P1 := isD w (.int (indF u (2 + i)))) (P2 := isD w (.int (indF v (2 + i))))
      (Ev_meth1 (C := 139) (N := 138) (tab := wsTab) (l := wsD x u) (Ev_name h1) (Ev_name (d := .int (2 + i)) rfl) (by exact mem_lkA rfl) (by exact mem_lk (by kernel_rfl)) (by exact mem_lk (by kernel_rfl)) (by exact mem_lk (by kernel_rfl)) (f := 108) (fd := fdIndent) (by exact mem_lkA rfl) lk_indent rfl (fn_indent w) ⟨x, u, 2 + i, rfl, hu.1, by (first | lia | omega), by (first | lia | omega), rfl⟩ (Nat.le_refl _))
      (Ev_meth1 (C := 139) (N := 138) (tab := wsTab) (l := wsD y v) (Ev_name h2) (Ev_name (d := .int (2 + i)) rfl) (by exact mem_lkA rfl) (by exact mem_lk (by kernel_rfl)) (by exact mem_lk (by kernel_rfl)) (by exact mem_lk (by kernel_rfl)) (f := 108) (fd := fdIndent) (by exact mem_lkA rfl) lk_indent rfl (fn_indent w) ⟨y, v, 2 + i, rfl, hv.1, by (first | lia | omega), by (first | lia | omega), rfl⟩ (Nat.le_refl _))
      (.isD _) .ge) (fun hc => ?_) fun hc => W_end (W_nil ⟨h1, h2, fun j hj => ?_⟩)
    · rw [decide_eq_true_eq] at hc
      refine W_ret Ev_bool ?_
      show D.bool _ = D.bool _
      unfold lessF; rw [if_neg hb, if_neg (by rw [hs]; exact Bool.false_ne_true)]
      congr 1
      symm
      rw [List.all_eq_false]
      refine ⟨i, List.mem_range.mpr (by (first | lia | omega)), ?_⟩
      rw [decide_eq_true_eq]; (first | lia | omega)
    · rw [decide_eq_false_iff_not] at hc
      rcases Nat.lt_succ_iff_lt_or_eq.mp hj with hj | rfl
      · exact h3 j hj
      · (first | lia | omega)
  · rintro ρ ⟨h1, h2, h3⟩
    rw [rngD_len] at h3
    refine W_ret Ev_bool ?_
    show D.bool _ = D.bool _
    unfold lessF; rw [if_neg hb, if_neg (by rw [hs]; exact Bool.false_ne_true)]
    congr 1
    symm
    rw [List.all_eq_true]
    intro j hj
    rw [decide_eq_true_eq]
    exact h3 j (by rw [List.mem_range] at hj; (first | lia | omega))
end Mine
end

noncomputable section -- MY
open PySem PyProof.Rows
set_option maxRecDepth 100000
namespace Mine

noncomputable def scopeOf : Stmt → Scope
  | .FunctionDef _ _ _ _ _ _ s _ _ _ => s
  | _ => default
noncomputable def argsOf : Stmt → Arguments
  | .FunctionDef _ a _ _ _ _ _ _ _ _ => a
  | _ => default
noncomputable def stRead : Stmt := subSt 9 1
noncomputable def qRead : Str := Str.ofString "_law_machine.<locals>._law_read_on"
noncomputable def clRd (ct ca : Addr) : List (Str × Addr) := [(Str.ofString "text", ct), (Str.ofString "at", ca)]
noncomputable def rdFd (ct ca : Addr) (doc pm : Value) (c' : Addr) (ctv : Value) : FuncData := PySem.W.fnX (Str.ofString "_law_read_on") qRead (argsOf stRead) (bodyOf stRead) (scopeOf stRead) (clRd ct ca) .none .none doc pm none (.ref c') ctv

structure RdAt (μ : Addr → Prop) (h : Heap) (f : Addr) (tx : Str) (t : Addr) (ct ca : Addr) : Prop where
  fn : ∃ doc pm c' ctv, h.get? f = some { cls := .type "function", data := .func (rdFd ct ca doc pm c' ctv) } ∧ h.CodeRec (.ref c') qRead ∧ ¬ μ c'
  nf : ¬ μ f
  nt : ¬ μ ct
  na : ¬ μ ca
  cT : ∃ tk, h.IsCell ct (some (.str tx tk))
  cA : h.IsCell ca (some (.ref t))
  ne : ct ≠ ca
  bT : Big ct
  bA : Big ca

theorem RdAt.move {μ μ' : Addr → Prop} {h h' : Heap} {f t ct ca : Addr} {tx : Str} (r : RdAt μ h f tx t ct ca) (hμ : ∀ a o, h.get? a = some o → ¬ μ a → ¬ μ' a) (hk : ∀ b o, ¬ μ b → h.get? b = some o → h'.get? b = some o) : RdAt μ' h' f tx t ct ca := by
  obtain ⟨doc, pm, c', ctv, e, ⟨cc, o, vs, tq, e1, e2, e3⟩, nc⟩ := r.fn
  obtain ⟨tk, oc, ec, dc⟩ := r.cT
  obtain ⟨oa, ea, da⟩ := r.cA
  cases e1
  exact ⟨⟨doc, pm, c', ctv, hk _ _ r.nf e, ⟨c', o, vs, tq, rfl, hk _ _ nc e2, e3⟩, hμ _ _ e2 nc⟩, hμ _ _ e r.nf, hμ _ _ ec r.nt, hμ _ _ ea r.na, ⟨tk, oc, hk _ _ r.nt ec, dc⟩, ⟨oa, hk _ _ r.na ea, da⟩, r.ne, r.bT, r.bA⟩

theorem fn_read {w : World} {A : Around} {μ : Addr → Prop} {s : Shared} {f t ct ca : Addr} {cs : List Nat} {pos : Nat} {tk0 tk1 : Tok} {n0 : Nat} (hA : Room A 1) (hG : G w s.heap) (hμ : MuOk μ s.heap) (hr : RdAt μ s.heap f (S cs) t ct ca) (ht : μ t) (hB : Big t)
    (hl : s.heap.get? t = some (lstO #[.int pos tk0] n0)) (hp : pos ≤ cs.length) (hc : cs.length ≤ 10000) :
    codeAny (model PG w) A (.call (.ref f) ⟨[.int 1 tk1], []⟩) (RetR fun r s' => ExtS [t] s s' ∧ (∃ tk n, s'.heap.get? t = some (lstO #[.int ((pos + ((cs.drop pos).take 1).length : Nat) : Int) tk] n)) ∧ ∃ tk, r = .str (S ((cs.drop pos).take 1)) tk) s := by
  obtain ⟨doc, pm, c', ctv, e, hcd, nc⟩ := hr.fn
  let fd := rdFd ct ca doc pm c' ctv
  refine codeAny_call_def (fd := fd) (body := bodyOf stRead) (binds := [(Str.ofString "size", .int 1 tk1)]) (by show A.depth < 1000; have := hA.2.1; (first | lia | omega)) e rfl hG.lim hcd rfl ?_ ?_ ?_ (fun h₀ hn hk => ?_) rfl rfl rfl
  · exact fun M A E Q hq => wpAny_of_eq (a := [(Str.ofString "size", Value.int 1 tk1)]) rfl hq
  · show ∀ x ∈ (scopeOf stRead).names, x.2 ≠ .cell
    decide
  · intro y hy
    rw [List.mem_singleton.mp hy]; rfl
  · have hL := hn.lt
    let L : Addr := s.heap.objs.size
    have hE : Ext s { s with heap := h₀, toks := s.toks + 1 } := Ext.of_keep hk
    let c : Cx := { rk := 0, w := w, A := A.deeper (callEnv fd L f), env := callEnv fd L f, s₀ := s, μ₀ := fun b => μ b ∨ b = ct ∨ b = ca, S := fun b => b = t, pr := fun _ => False }
    let μ' : Addr → Prop := fun b => (μ b ∨ b = ct ∨ b = ca) ∨ b = L
    have ltT : ct < s.heap.objs.size := by obtain ⟨_, o, e, _⟩ := hr.cT; exact Heap.lt_size e
    have ltA : ca < s.heap.objs.size := by obtain ⟨o, e, _⟩ := hr.cA; exact Heap.lt_size e
    have ltt : t < s.heap.objs.size := Heap.lt_size hl
    have lvT : ∃ o, s.heap.get? ct = some o := by obtain ⟨_, o, e, _⟩ := hr.cT; exact ⟨o, e⟩
    have lvA : ∃ o, s.heap.get? ca = some o := by obtain ⟨o, e, _⟩ := hr.cA; exact ⟨o, e⟩
    have hLB : Big L := hG.size
    have tct : t ≠ ct := fun z => hr.nt (z ▸ ht)
    have tca : t ≠ ca := fun z => hr.na (z ▸ ht)
    let ρ : Loc := upd (upd (upd Loc.nil (Str.ofString "text") (.fz (.str (S cs)))) (Str.ofString "at") (OL w t [.int pos])) (Str.ofString "size") (.fz (.int 1))
    have ρat : ρ (Str.ofString "at") = some (OL w t [.int pos]) := rfl
    have ρtx : ρ (Str.ofString "text") = some (.fz (.str (S cs))) := rfl
    have ρsz : ρ (Str.ofString "size") = some (.fz (.int 1)) := rfl
    have ρc : ∀ x l, ρ x = some l → (x = Str.ofString "size" ∧ l = .fz (.int 1)) ∨ (x = Str.ofString "at" ∧ l = OL w t [.int pos]) ∨ (x = Str.ofString "text" ∧ l = .fz (.str (S cs))) := by
      intro x l hx
      by_cases h1 : x = Str.ofString "size"
      · subst h1; rw [ρsz] at hx; cases hx; exact .inl ⟨rfl, rfl⟩
      · by_cases h2 : x = Str.ofString "at"
        · subst h2; rw [ρat] at hx; cases hx; exact .inr (.inl ⟨rfl, rfl⟩)
        · by_cases h3 : x = Str.ofString "text"
          · subst h3; rw [ρtx] at hx; cases hx; exact .inr (.inr ⟨rfl, rfl⟩)
          · have : ρ x = none := by show upd (upd (upd _ _ _) _ _) _ _ x = none; unfold upd; rw [if_neg h1, if_neg h2, if_neg h3]; rfl
            rw [this] at hx; cases hx
    have fpm : ∀ b ∈ c.fp, b = L ∨ b = ct ∨ b = ca := fun b hb => by
      have : b ∈ [L, ct, ca] := hb
      simpa using this
    have t0 : StM c μ' ρ { s with heap := h₀, toks := s.toks + 1 } := by
      refine ⟨⟨hA.1, ?_, ?_⟩, hG.ext hE, fun b o e' _ n => hE.keep b o e' n, hE.os, hE.bare, fun _ q => .inl q, fun b q => ?_, fun b q => q.elim .inl fun q => .inr (Nat.le_of_eq q.symm), fun b q => ?_, .inl (.inl hμ.t), fun b q => ?_, fun h => h, fun _ h => h.elim, ?_⟩
      · show A.depth + 1 + 0 < 900; have := hA.2.1; (first | lia | omega)
      · show A.units + 3 + 100 * 0 + 1000 < 9900; have := hA.2.2; (first | lia | omega)
      · rcases q with q | rfl | rfl
        · obtain ⟨_, e'⟩ := hμ.live b q; exact Heap.lt_size e'
        · exact ltT
        · exact ltA
      · rcases q with (q | rfl | rfl) | rfl
        · obtain ⟨o, e'⟩ := hμ.live b q; exact ⟨o, hk b o e'⟩
        · obtain ⟨o, e'⟩ := lvT; exact ⟨o, hk _ o e'⟩
        · obtain ⟨o, e'⟩ := lvA; exact ⟨o, hk _ o e'⟩
        · obtain ⟨o, _, _, e', _⟩ := hn; exact ⟨o, e'⟩
      · rcases q with (q | rfl | rfl) | rfl
        · exact hμ.ge b q
        · exact .inl hr.bT
        · exact .inl hr.bA
        · exact .inl hLB
      have cellOf : ∀ x cl, c.env.cells.lookup x = some cl → (x = Str.ofString "text" ∧ cl = ct) ∨ (x = Str.ofString "at" ∧ cl = ca) := fun x cl e => by
        have e' : (clRd ct ca).lookup x = some cl := e
        unfold clRd at e'
        rw [List.lookup_cons] at e'
        split at e'
        · rename_i hx; cases e'; exact .inl ⟨by simpa using hx, rfl⟩
        · rw [List.lookup_cons] at e'
          split at e'
          · rename_i hx; cases e'; exact .inr ⟨by simpa using hx, rfl⟩
          · cases e'
      have cTk : ∃ tk, h₀.IsCell ct (some (.str (S cs) tk)) := by obtain ⟨tk, o, e, r⟩ := hr.cT; exact ⟨tk, o, hk _ _ e, r⟩
      have cAk : h₀.IsCell ca (some (.ref t)) := by obtain ⟨o, e, r⟩ := hr.cA; exact ⟨o, hk _ _ e, r⟩
      refine ⟨rfl, rfl, rfl, .inr rfl, Nat.le_refl _, ?_, ?_, ?_, ?_, ?_, ?_, fun _ _ h => h, ?_, ?_, ?_⟩
      · intro p hp
        have hp' : p ∈ clRd ct ca := hp
        simp only [clRd, List.mem_cons, List.not_mem_nil, or_false] at hp'
        rcases hp' with rfl | rfl
        · exact .inl (.inr (.inl rfl))
        · exact .inl (.inr (.inr rfl))
      · intro x cl e
        rcases cellOf x cl e with ⟨_, rfl⟩ | ⟨_, rfl⟩
        · obtain ⟨tk, q⟩ := cTk; exact ⟨_, q⟩
        · exact ⟨_, cAk⟩
      · intro x cl e
        rcases cellOf x cl e with ⟨rfl, _⟩ | ⟨rfl, _⟩
        · show (scopeOf stRead).names.lookup (Str.ofString "text") ≠ some .local
          decide
        · show (scopeOf stRead).names.lookup (Str.ofString "at") ≠ some .local
          decide
      · show (clRd ct ca).Pairwise _
        simp [clRd, hr.ne]
      · intro p hp
        have hp' : p ∈ clRd ct ca := hp
        simp only [clRd, List.mem_cons, List.not_mem_nil, or_false] at hp'
        rcases hp' with rfl | rfl
        · exact Nat.ne_of_lt ltT
        · exact Nat.ne_of_lt ltA
      · intro b hb
        rcases fpm b hb with rfl | rfl | rfl
        · exact hLB
        · exact hr.bT
        · exact hr.bA
      · refine ⟨_, hn, fun x l hx => ?_⟩
        rcases ρc x l hx with ⟨rfl, rfl⟩ | ⟨rfl, rfl⟩ | ⟨rfl, rfl⟩
        · exact ⟨rfl, .int 1 tk1, .inl ⟨rfl, rfl⟩, .int _ _⟩
        · exact ⟨rfl, .ref t, .inr ⟨.inr rfl, ca, rfl, cAk⟩, rfl, _, _, hk _ _ hl, .cons (.int _ _) .nil⟩
        · obtain ⟨tk, q⟩ := cTk
          exact ⟨rfl, .str (S cs) tk, .inr ⟨.inr rfl, ct, rfl, q⟩, .str _ _⟩
      · intro x l hx
        rcases ρc x l hx with ⟨rfl, rfl⟩ | ⟨rfl, rfl⟩ | ⟨rfl, rfl⟩
        · exact ⟨trivial, List.nodup_nil, fun _ h => by cases h⟩
        · refine ⟨olR_stable, by simp [OL, LV.adr], fun b hb => ?_⟩
          have hb : b = t := by simpa [OL, LV.adr] using hb
          subst hb
          refine ⟨.inl (.inl ht), fun z => ?_, fun h => h, .inr rfl, hB⟩
          rcases fpm _ z with rfl | rfl | rfl
          · exact Nat.lt_irrefl _ ltt
          · exact tct rfl
          · exact tca rfl
        · exact ⟨trivial, List.nodup_nil, fun _ h => by cases h⟩
      · intro x y l k hx hy hne b hb
        rcases ρc x l hx with ⟨rfl, rfl⟩ | ⟨rfl, rfl⟩ | ⟨rfl, rfl⟩
        · cases hb
        · rcases ρc y k hy with ⟨rfl, rfl⟩ | ⟨rfl, rfl⟩ | ⟨rfl, rfl⟩
          · intro h; cases h
          · exact absurd rfl hne
          · intro h; cases h
        · cases hb
    have body : W c ρ (bodyOf stRead) (fun o => match o with | .ret d' ρ' => d' = .str (S ((cs.drop pos).take 1)) ∧ ρ' (Str.ofString "at") = some (OL w t [.int ((pos + ((cs.drop pos).take 1).length : Nat) : Int)]) | _ => False) := by
      have iat : ∀ {ρ' : Loc} {p : Pos} {q r : Pos}, ρ' (Str.ofString "at") = some (OL w t [.int pos]) → Ev c ρ' (.Subscript (.Name (Str.ofString "at") p) (.Constant (.int 0) 0 q) r) (.int pos) := fun h =>
        EvV_sub (P2 := isD w (.int 0)) (EvV_name h) Ev_int (SP.lv h) (.itemP (ds := [.int pos]) (fun μ h v r => lsP.ol (show olR w t _ μ h v from r)) rfl (by decide) (by decide) rfl)
      have ecut : cutL cs (some (pos : Int)) (some ((pos : Int) + 1)) = (cs.drop pos).take 1 := by
        unfold cutL cutB
        dsimp only
        have h1 : min (pos : Int).toNat cs.length = pos := by (first | lia | omega)
        rw [h1]
        have h2 : min ((pos : Int) + 1).toNat cs.length = min (pos + 1) cs.length := by (first | lia | omega)
        rw [h2, List.take_drop]
        congr 1
        by_cases hq : pos + 1 ≤ cs.length
        · rw [Nat.min_eq_left hq]
        · rw [Nat.min_eq_right (by (first | lia | omega)), List.take_length, List.take_of_length_le (by (first | lia | omega))]
      refine W_assign (Ev_sliceS (cs := cs) (lo := some (pos : Int)) (hi := some ((pos : Int) + 1)) (Ev_name ρtx) (Pt_some (iat ρat)) (Pt_some (Ev_add (iat ρat) (Ev_name ρsz))) (fun i e => by cases e; (first | lia | omega)) (fun i e => by cases e; (first | lia | omega)) (by (first | lia | omega))) ⟨rfl, .inl rfl⟩ ?_
      rw [ecut]
      have hlen : ((cs.drop pos).take 1).length ≤ 1 := by rw [List.length_take]; (first | lia | omega)
      refine W_setitemL (x := Str.ofString "at") (a := t) (l := [.int pos]) (k := 0) (d := .int ((pos + ((cs.drop pos).take 1).length : Nat) : Int)) ρat (Ev.eq (Ev_add (iat ρat) (EvV_b1 (Ev_name (d := .str (S ((cs.drop pos).take 1))) rfl) (.lenS (by rw [S_length]; (first | lia | omega))) (by decide) boot_len rfl)) (by rw [S_length]; congr 1)) Ev_int (by decide) (by simp) (by simp) ?_
      exact W_ret (Ev_name (d := .str (S ((cs.drop pos).take 1))) rfl) ⟨rfl, rfl⟩
    refine wpAny_mono (body μ' _ t0) (fun fl s' q => ?_) fun _ _ z => z.elim
    obtain ⟨o, μ'', q, r, _⟩ := q
    cases o with
    | ret d' ρ' =>
      obtain ⟨v, rfl, t', r'⟩ := r
      obtain ⟨rfl, hat⟩ := q
      obtain ⟨m, hn', hvar⟩ := t'.frame.var
      obtain ⟨_, u, _, ru⟩ := hvar _ _ hat
      obtain ⟨_, vs, n, hl', rl⟩ := ru
      have e1 : ∃ tk, vs = #[.int ((pos + ((cs.drop pos).take 1).length : Nat) : Int) tk] := by
        have : ∃ tk, vs.toList = [.int ((pos + ((cs.drop pos).take 1).length : Nat) : Int) tk] := by
          generalize vs.toList = vl at rl
          cases rl using RpL.elimCons with | cons a b => cases b; cases a using Rp.elimInt; exact ⟨_, rfl⟩
        obtain ⟨tk, e⟩ := this
        exact ⟨tk, by rw [← Array.toArray_toList (xs := vs), e]⟩
      obtain ⟨tk, rfl⟩ := e1
      cases r' using Rp.elimStr with
      | str tkr =>
      refine ⟨⟨fun b o ee n72 nt => t'.keep b o ee (fun z => nt (by rw [show b = t from z]; simp)) n72, t'.os, t'.bare, t'.g.tab, fun b hb => ?_⟩, ⟨tk, n, hl'⟩, tkr, rfl⟩
      rw [List.mem_singleton.mp hb]
      exact ⟨_, hl'⟩
    | next ρ' => exact q.elim
    | brk ρ' => exact q.elim
    | cont ρ' => exact q.elim
end Mine
end

noncomputable section -- MZ
open PySem PyProof.Rows
set_option maxRecDepth 100000
namespace Mine

noncomputable def wsStr : Str := S [10, 9, 13, 32]
noncomputable def mcD (ln : Int) (g p : Addr) : List (Str × D) := [(Str.ofString "lineno", .int ln), (Str.ofString "instream", .adr g), (Str.ofString "whitespace", .str wsStr), (Str.ofString "pushback", .adr p)]

noncomputable def StAt (μ : Addr → Prop) (h : Heap) (g f : Addr) : Prop := ∃ go gd fd m, ¬ μ g ∧ h.get? g = some go ∧ go.cls = .type "function" ∧ go.data = .func fd ∧ go.dict = some gd ∧ ¬ μ gd ∧ h.Ns gd m ∧ m (Str.ofString "read") = some (.ref f)
theorem StAt.move {μ μ' : Addr → Prop} {h h' : Heap} {g f : Addr} (r : StAt μ h g f) (hμ : ∀ a o, h.get? a = some o → ¬ μ a → ¬ μ' a) (hk : ∀ b o, ¬ μ b → h.get? b = some o → h'.get? b = some o) : StAt μ' h' g f := by
  obtain ⟨go, gd, fd, m, n1, e1, c1, d1, x1, n2, ns, hm⟩ := r
  have ns' := ns
  obtain ⟨o, es, ep, e2, r2⟩ := ns
  exact ⟨go, gd, fd, m, hμ _ _ e1 n1, hk _ _ n1 e1, c1, d1, x1, hμ _ _ e2 n2, ⟨o, es, ep, hk _ _ n2 e2, r2⟩, hm⟩

structure McAt (w : World) (a d p t g : Addr) (rem : List Nat) (ln : Int) (q : List (List Nat)) (μ : Addr → Prop) (h : Heap) : Prop where
  ne : d ≠ a
  obj : ∃ o, h.get? a = some o ∧ (o.cls = .ref 59 ∧ o.dict = some d ∧ ∀ k, o.data ≠ .cls k)
  ns : ∃ kvs, h.Ns1 d (valueAt kvs) ∧ RpK w μ h kvs (mcD ln g p)
  rd : ∃ f ct ca cs pos, StAt μ h g f ∧ RdAt μ h f (S cs) t ct ca ∧ pos ≤ cs.length ∧ cs.length ≤ 10000 ∧ rem = cs.drop pos ∧ ∃ tk n, h.get? t = some (lstO #[.int (pos : Nat) tk] n)
  pb : ∃ vs n, h.get? p = some (lstO vs n) ∧ RpL w μ h vs.toList (q.map fun x => .str (S x))
noncomputable def mcR (w : World) (a d p t g : Addr) (rem : List Nat) (ln : Int) (q : List (List Nat)) : VP := fun μ h v => v = .ref a ∧ McAt w a d p t g rem ln q μ h
noncomputable def MC (w : World) (a d p t g : Addr) (rem : List Nat) (ln : Int) (q : List (List Nat)) : LV := .own [a, d, p, t] (mcR w a d p t g rem ln q)

theorem mcR_stable {w : World} {a d p t g : Addr} {rem : List Nat} {ln : Int} {q : List (List Nat)} : Stable [a, d, p, t] (mcR w a d p t g rem ln q) := by
  rintro μ μ' h h' v hμ hk ⟨rfl, r⟩
  have hf : ∀ b o, ¬ μ b → h.get? b = some o → h'.get? b = some o := fun b o n e => hk b o (.inl n) e
  refine ⟨rfl, r.ne, ?_, ?_, ?_, ?_⟩
  · obtain ⟨o, e, z⟩ := r.obj; exact ⟨o, hk _ _ (.inr (by simp)) e, z⟩
  · obtain ⟨kvs, n, z⟩ := r.ns; exact ⟨kvs, n.at fun o e => hk _ o (.inr (by simp)) e, z.move hμ hf⟩
  · obtain ⟨f, ct, ca, cs, pos, z1, z2, z3, z4, z5, tk, n, e⟩ := r.rd
    exact ⟨f, ct, ca, cs, pos, z1.move hμ hf, z2.move hμ hf, z3, z4, z5, tk, n, hk _ _ (.inr (by simp)) e⟩
  · obtain ⟨vs, n, e, z⟩ := r.pb; exact ⟨vs, n, hk _ _ (.inr (by simp)) e, z.move hμ hf⟩
theorem mcR.inst {w : World} {a d p t g : Addr} {rem : List Nat} {ln : Int} {q : List (List Nat)} {μ : Addr → Prop} {h : Heap} {v : Value} (r : mcR w a d p t g rem ln q μ h v) : inP w 59 (mcD ln g p) μ h v := by
  obtain ⟨rfl, r⟩ := r
  exact ⟨a, d, rfl, r.ne, r.obj, r.ns⟩
theorem mcR.push {w : World} {a d p t g : Addr} {rem : List Nat} {ln : Int} {q : List (List Nat)} {μ : Addr → Prop} {h : Heap} {v : Value} (r : mcR w a d p t g rem ln q μ h v) : olR w p (q.map fun x => .str (S x)) μ h (.ref p) := by
  obtain ⟨rfl, r⟩ := r
  obtain ⟨vs, n, e, z⟩ := r.pb
  exact ⟨rfl, vs, n, e, z⟩

theorem McAt.upd {w : World} {a d p t g : Addr} {rem : List Nat} {ln : Int} {q : List (List Nat)} {μ : Addr → Prop} {h h' : Heap} {x : Addr} (r : McAt w a d p t g rem ln q μ h) (hx : μ x) (hk : ∀ b o, b ≠ x → (¬ μ b ∨ b ∈ [a, d, p, t]) → h.get? b = some o → h'.get? b = some o)
    {rem' : List Nat} {ln' : Int} {q' : List (List Nat)} (ha : x ≠ a)
    (hd : (x ≠ d ∧ ln' = ln) ∨ ∃ kvs, h'.Ns1 d (valueAt kvs) ∧ RpK w μ h' kvs (mcD ln' g p))
    (ht : (x ≠ t ∧ rem' = rem) ∨ ∃ f ct ca cs pos, StAt μ h' g f ∧ RdAt μ h' f (S cs) t ct ca ∧ pos ≤ cs.length ∧ cs.length ≤ 10000 ∧ rem' = cs.drop pos ∧ ∃ tk n, h'.get? t = some (lstO #[.int (pos : Nat) tk] n))
    (hp : (x ≠ p ∧ q' = q) ∨ ∃ vs n, h'.get? p = some (lstO vs n) ∧ RpL w μ h' vs.toList (q'.map fun x => .str (S x))) : McAt w a d p t g rem' ln' q' μ h' := by
  have hf : ∀ b o, ¬ μ b → h.get? b = some o → h'.get? b = some o := fun b o n e => hk b o (fun z => n (z ▸ hx)) (.inl n) e
  have id' : ∀ b o, h.get? b = some o → ¬ μ b → ¬ μ b := fun _ _ _ n => n
  refine ⟨r.ne, ?_, ?_, ?_, ?_⟩
  · obtain ⟨o, e, z⟩ := r.obj; exact ⟨o, hk _ _ (fun z => ha z.symm) (.inr (by simp)) e, z⟩
  · rcases hd with ⟨n1, rfl⟩ | hd
    · obtain ⟨kvs, n, z⟩ := r.ns; exact ⟨kvs, n.at fun o e => hk _ o (fun z => n1 z.symm) (.inr (by simp)) e, z.move id' hf⟩
    · exact hd
  · rcases ht with ⟨n1, rfl⟩ | ht
    · obtain ⟨f, ct, ca, cs, pos, z1, z2, z3, z4, z5, tk, n, e⟩ := r.rd
      exact ⟨f, ct, ca, cs, pos, z1.move id' hf, z2.move id' hf, z3, z4, z5, tk, n, hk _ _ (fun z => n1 z.symm) (.inr (by simp)) e⟩
    · exact ht
  · rcases hp with ⟨n1, rfl⟩ | hp
    · obtain ⟨vs, n, e, z⟩ := r.pb; exact ⟨vs, n, hk _ _ (fun z => n1 z.symm) (.inr (by simp)) e, z.move id' hf⟩
    · exact hp

theorem ExtS.weaken {s s' : Shared} {as as' : List Addr} (e : ExtS as s s') (hs : ∀ a ∈ as, a ∈ as') (hl : ∀ a ∈ as', a ≠ 72 ∧ ∃ o, s.heap.get? a = some o) : ExtS as' s s' :=
  ⟨fun b o ee n n' => e.keep b o ee n fun z => n' (hs b z), e.os, e.bare, e.tab, fun a ha => by
    by_cases h : a ∈ as
    · exact e.live a h
    · obtain ⟨n, o, ee⟩ := hl a ha; exact ⟨o, e.keep a o ee n h⟩⟩
section
variable {c : Cx} {ρ : Loc} {μ : Addr → Prop} {s s' : Shared} {Q : Out → Prop} {a d p t g : Addr} {rem : List Nat} {ln : Int} {q : List (List Nat)}

theorem StM.val {x : Str} {l : LV} (tt : StM c μ ρ s) (hx : ρ x = some l) : ∃ v, l.Rep c.w μ s.heap v := by
  obtain ⟨m, hn, hv⟩ := tt.frame.var
  obtain ⟨_, u, _, ru⟩ := hv x l hx
  exact ⟨u, ru⟩

theorem EvO_read {np ap1 ap2 pos : Pos} {ke : Nat} {ip : Pos} {pl : Sem Bool} (hx : ρ (Str.ofString "self") = some (MC c.w a d p t g rem ln q)) (hr : 2 ≤ c.rk)
    (he : eval (.Call (.Attribute (.Attribute (.Name (Str.ofString "self") np) (Str.ofString "instream") ap1) (Str.ofString "read") ap2) [.Constant (.int 1) ke ip] [] pos) c.env = (do
      let ov ← eval (.Attribute (.Name (Str.ofString "self") np) (Str.ofString "instream") ap1) c.env
      standAt ap2.atName
      let (f, first) ← holding [ov] (getMethod ov (Str.ofString "read") pl)
      callWith pos f first (backTo pos (starEach [.Constant (.int 1) ke ip] c.env)) []) := by rfl)
    (ha : eval (.Attribute (.Name (Str.ofString "self") np) (Str.ofString "instream") ap1) c.env = (do
      let o' ← eval (.Name (Str.ofString "self") np) c.env
      standAt ap1.atName
      let r ← holding [o'] (getAttr o' (Str.ofString "instream") true)
      letTemporaryGo (.Name (Str.ofString "self") np) o' r
      pure r) := by with_unfolding_all rfl) (hst : starEach [Expr.Constant (.int 1) ke ip] c.env = [(false, eval (.Constant (.int 1) ke ip) c.env)] := by rfl) :
    EvO c ρ (.Call (.Attribute (.Attribute (.Name (Str.ofString "self") np) (Str.ofString "instream") ap1) (Str.ofString "read") ap2) [.Constant (.int 1) ke ip] [] pos) (Str.ofString "self") (MC c.w a d p t g (rem.drop 1) ln q) (.str (S (rem.take 1))) := fun μ s tt => by
  refine MethodCall_ (pl := pl) (wpAny_mono (Ev_attrP (P := mcR c.w a d p t g rem ln q) (C := 59) (N := 58) (tab := netTab) (l := mcD ln g p) (d := .adr g) (EvV_name hx) (fun _ _ _ r => r.inst) (by exact mem_lkA rfl) (by exact mem_lk (by kernel_rfl)) (by exact mem_lk (by kernel_rfl)) lk_instream rfl ha μ s tt) (fun v s1 q1 => ?_) fun _ _ x => x) he
  obtain ⟨x1, r1⟩ := q1
  cases r1
  have t1 := tt.ext x1
  obtain ⟨v1, rv1⟩ := t1.val hx
  have rm : mcR c.w a d p t g rem ln q μ s1.heap v1 := rv1
  obtain ⟨f, ct, ca, cs, po, z1, z2, z3, z4, z5, tk, n, e⟩ := rm.2.rd
  obtain ⟨go, gd, fd, m, y1, y2, y3, y4, y5, y6, y7, y8⟩ := z1
  obtain ⟨hp, gg, dr, tk1, os⟩ := s1
  refine fn_getmethod (fd := fd) y2 y3 y4 y5 y7 y8 rfl ?_
  obtain ⟨_, hnd, hown⟩ := t1.frame.own _ _ hx
  have ht := hown t (by simp [MC, LV.adr])
  have x2 : Ext ⟨hp, gg, dr, tk1, os⟩ ⟨hp, gg, dr, tk1 + 1, os⟩ := Ext.toks ⟨hp, gg, dr, tk1, os⟩ (tk1 + 1)
  have t2 := t1.ext x2
  obtain ⟨doc, pm, c', ctv, ef, hcd, nc⟩ := z2.fn
  refine callWith_def (o := { cls := .type "function", data := .func (rdFd ct ca doc pm c' ctv) }) (fd := rdFd ct ca doc pm c' ctv) rfl (wpAny_mono (EvL_cons (pos := pos) (ds := []) Ev_int EvL_nil hst μ _ t2) (fun vs s2 q2 => ?_) fun _ _ x => x) hst
  obtain ⟨x3, r3⟩ := q2
  have t3 := t2.ext x3
  have x13 : Ext ⟨hp, gg, dr, tk1, os⟩ s2 := x2.trans x3
  have n72 : ∀ b, ¬ μ b → b ≠ 72 := fun b nb z => nb (z ▸ tt.mu72)
  have z2' : RdAt μ s2.heap f (S cs) t ct ca := z2.move (fun _ _ _ n => n) fun b o nb ee => x13.keep b o ee (n72 b nb)
  refine ⟨x13.keep _ _ ef (n72 _ z2.nf), ?_⟩
  cases r3 using RpL.elimCons with
  | @cons u1 us ru1 ru2 =>
  cases ru2
  cases ru1 using Rp.elimInt with
  | int tk1' =>
  have et : s2.heap.get? t = some (lstO #[.int (po : Nat) tk] n) := x13.keep _ _ e (fun z => absurd (show Big 72 from z ▸ ht.2.2.2.2) (by decide))
  refine wpAny_call (codeAny_mono (fn_read (t3.room.le (by (first | lia | omega))) t3.g t3.muOk z2' ht.1 ht.2.2.2.2 et z3 z4) fun r s3 hr => ?_)
  rcases r with e' | (v | _ | _ | _) <;> first | exact hr.elim | skip
  obtain ⟨xs, ⟨tk', n', et'⟩, tk'', rfl⟩ := hr
  have hlv : ∀ b ∈ [a, d, p, t], b ≠ 72 ∧ ∃ o, s2.heap.get? b = some o := fun b hb => ⟨fun z => absurd (show Big 72 from z ▸ (hown b hb).2.2.2.2) (by decide), t3.live b (hown b hb).1⟩
  have hne : (a ≠ t ∧ d ≠ t ∧ p ≠ t) := by
    have : [a, d, p, t].Nodup := hnd
    simp at this
    exact ⟨this.1.2.2, this.2.1.2, this.2.2⟩
  obtain ⟨t4, mv4⟩ := t3.callS (s' := s3) (R' := mcR c.w a d p t g (rem.drop 1) ln q) hx (xs.weaken (by simp) hlv) mcR_stable fun v hv => by
    have hv : mcR c.w a d p t g rem ln q μ s2.heap v := hv
    refine ⟨hv.1, hv.2.upd (x := t) ht.1 (fun b o nb ob ee => ?_) (Ne.symm hne.1) (.inl ⟨Ne.symm hne.2.1, rfl⟩) (.inr ?_) (.inl ⟨Ne.symm hne.2.2, rfl⟩)⟩
    · exact xs.keep b o ee (ob.elim (n72 b) fun z => (hlv b z).1) (fun z => nb (List.mem_singleton.mp z))
    · have kf : ∀ b o, ¬ μ b → s2.heap.get? b = some o → s3.heap.get? b = some o := fun b o nb ee => xs.keep b o ee (n72 b nb) fun z => nb ((List.mem_singleton.mp z) ▸ ht.1)
      have k13 : ∀ b o, ¬ μ b → Heap.get? hp b = some o → s2.heap.get? b = some o := fun b o nb ee => x13.keep b o ee (n72 b nb)
      have zs : StAt μ hp g f := ⟨go, gd, fd, m, y1, y2, y3, y4, y5, y6, y7, y8⟩
      have hlen : ((cs.drop po).take 1).length = min 1 (cs.length - po) := by rw [List.length_take, List.length_drop]
      refine ⟨f, ct, ca, cs, po + ((cs.drop po).take 1).length, (zs.move (fun _ _ _ n => n) k13).move (fun _ _ _ n => n) kf, z2'.move (fun _ _ _ n => n) kf, by (first | lia | omega), z4, ?_, tk', n', et'⟩
      rw [z5, List.drop_drop]
      by_cases hq : po < cs.length
      · rw [hlen, show min 1 (cs.length - po) = 1 by (first | lia | omega)]
      · rw [List.drop_of_length_le (by (first | lia | omega)), List.drop_of_length_le (by (first | lia | omega))]
  exact ⟨t4, (tt.mv x1).trans ((t1.mv x13).trans mv4), by rw [z5]; exact .str _ _⟩

theorem wp_setInst {A : Around} {a dd C N : Addr} {name : Str} {tab : List (Str × Option Value)} {kvs : List (Str × Value)} {v : Value} {w : World} {R : Unit → Shared → Prop} (hG : G w s.heap) (hc : (C, N, tab) ∈ clsTab) (hsa : (Str.ofString "__setattr__", none) ∈ tab) (hn : (name, none) ∈ tab)
    (hB : typeLookup (.type "object") name = pure none) (hne : dd ≠ a) (haB : Big a) {o0 : Obj} (ho : s.heap.get? a = some o0) (hoo : o0.cls = .ref C ∧ o0.dict = some dd ∧ ∀ k, o0.data ≠ .cls k) (hns : s.heap.Ns1 dd (valueAt kvs)) (hz : kvs.length ≤ 1000)
    (hq : ∀ h' tk', (∀ b o, b ≠ dd → s.heap.get? b = some o → h'.get? b = some o) → h'.Ns1 dd (valueAt (stored kvs name v)) → R () { s with heap := h', toks := tk' }) : wpAny (model PG w) A (setAttr (.ref a) name v) R NoE s := by
  obtain ⟨mN, X, hX⟩ := hG.cls _ hc
  refine cls_elim X fun nm q bs sn sub col dd0 k0 k1 k2 k3 k5 hC => ?_
  have hCl : C < 185 ∧ C ≠ 72 := by have := of_decide_eq_true (List.all_eq_true.mp cls_lt _ hc); exact ⟨this.1, this.2.1⟩
  have haC : a ≠ C := Nat.ne_of_gt (Nat.lt_of_lt_of_le hCl.1 haB)
  obtain ⟨hp, g, dr, tk, os⟩ := s
  refine store_attr (B := "object") (sa := "object.__setattr__") (owner := "object") F.store_object hC X.ns (hX _ hsa) (hX _ hn) hB haC (inst_of ho hoo hne hns) (fun h' tk' I' hk hsame => ?_) (within_kvs kvs) (by rw [List.length_map, sizeLine_eq]; (first | lia | omega))
  dsimp only at ho hns
  obtain ⟨o1, e1, c1, c2, c3, c4⟩ := hsame _ ho
  have e1' : h'.get? a = some o0 := by
    rw [e1]
    have c5 := c4 dd hoo.2.1
    have c6 := hoo.2.1
    obtain ⟨oc, od, odt, osl⟩ := o1
    obtain ⟨oc', od', odt', osl'⟩ := o0
    simp only at c1 c2 c3 c5 c6
    subst c1; subst c2; subst c3; subst c5; subst c6
    rfl
  obtain ⟨o2, g1, g2, g3, g4⟩ := I'
  have hns' : h'.Ns1 dd (valueAt (stored kvs name v)) := by
    rw [e1'] at g1; cases g1
    rcases g4 with ⟨z, _⟩ | ⟨d2, z1, z2, z3⟩
    · rw [hoo.2.1] at z; cases z
    · rw [hoo.2.1] at z1; cases z1; rw [← valueAt_stored]; exact z3
  refine hq h' tk' (fun b o n e => ?_) hns'
  by_cases hb : b = a
  · subst hb; rw [ho] at e; cases e; exact e1'
  · exact hk b o hb (fun o₀ dx z1 z2 => by rw [ho] at z1; cases z1; rw [hoo.2.1] at z2; cases z2; exact n) e

theorem hne4 (tt : StM c μ ρ s) (hx : ρ (Str.ofString "self") = some (MC c.w a d p t g rem ln q)) : a ≠ d ∧ a ≠ p ∧ a ≠ t ∧ d ≠ p ∧ d ≠ t ∧ p ≠ t := by
  have : [a, d, p, t].Nodup := (tt.frame.own _ _ hx).2.1
  simp at this
  exact ⟨this.1.1, this.1.2.1, this.1.2.2, this.2.1.1, this.2.1.2, this.2.2⟩

theorem W_line {np tp ip pos : Pos} {ke : Nat} {rest : List Stmt} (hx : ρ (Str.ofString "self") = some (MC c.w a d p t g rem ln q)) (hq : W c (upd ρ (Str.ofString "self") (MC c.w a d p t g rem (ln + 1) q)) rest Q) :
    W c ρ (.AugAssign (.Attribute (.Name (Str.ofString "self") np) (Str.ofString "lineno") tp) .Add (.Constant (.int 1) ke ip) pos :: rest) Q := W_cons fun μ s tt => by
  refine wpAny_AugAssign_AttributeAny (wpAny_mono (EvV_name hx μ s tt) (fun v s1 q1 => ?_) fun _ _ x => x)
  obtain ⟨x1, rv⟩ := q1
  have rv : mcR c.w a d p t g rem ln q μ s1.heap v := rv
  obtain ⟨rfl, rm⟩ := rv
  have t1 := tt.ext x1
  have hne := hne4 t1 hx
  have hown := (t1.frame.own _ _ hx).2.2
  have hst : Stable [a, d, p, t] (mcR c.w a d p t g rem ln q) := mcR_stable
  obtain ⟨mN, X, hX⟩ := t1.g.cls (59, 58, netTab) (by exact mem_lkA rfl)
  refine cls_elim X fun nm q' bs sn sub col dd k0 k1 k2 k3 k5 hC => ?_
  obtain ⟨o, eo, hoo⟩ := rm.obj
  obtain ⟨kvs, ns, rk⟩ := rm.ns
  obtain ⟨v', hv, rv'⟩ := rk.look (k := Str.ofString "lineno") (d := .int ln) rfl
  obtain ⟨hp, gg, dr, tk, os⟩ := s1
  refine load_attr hC X.ns (hX (Str.ofString "__getattribute__", none) (by exact mem_lk (by kernel_rfl))) (hX (Str.ofString "lineno", none) (by exact mem_lk (by kernel_rfl))) lk_lineno (inst_of eo hoo rm.ne ns) hv rv'.handed ?_
  have x2 : Ext ⟨hp, gg, dr, tk, os⟩ ⟨hp, gg, dr, tk + 1, os⟩ := Ext.toks ⟨hp, gg, dr, tk, os⟩ (tk + 1)
  have t2 := t1.ext x2
  refine wpAny_mono (Ev_int μ _ t2) (fun u s3 q3 => ?_) fun _ _ x => x
  obtain ⟨x3, ru⟩ := q3
  cases ru
  cases rv' using Rp.elimInt with
  | int tk0 =>
  refine PyProof.Rows.iadd_int ?_
  have x13 := (x2.trans x3).trans (Ext.toks s3 (s3.toks + 1))
  have t4 := t1.ext x13
  obtain ⟨v4, r4⟩ := t4.val hx
  obtain ⟨rfl, rm4⟩ := (show mcR c.w a d p t g rem ln q μ _ v4 from r4)
  obtain ⟨o4, eo4, hoo4⟩ := rm4.obj
  obtain ⟨kvs4, ns4, rk4⟩ := rm4.ns
  refine wp_setInst t4.g (C := 59) (N := 58) (tab := netTab) (by exact mem_lkA rfl) (by exact mem_lk (by kernel_rfl)) (by exact mem_lk (by kernel_rfl)) lk_lineno rm4.ne (hown a (by simp [MC, LV.adr])).2.2.2.2 eo4 hoo4 ns4 (by rw [rk4.length]; show 4 ≤ 1000; (first | lia | omega)) fun h' tk' hk hns' => ?_
  have hdm := hown d (by simp [MC, LV.adr])
  obtain ⟨t5, mv5⟩ := t4.setOwn (h' := h') (tk := tk') (a := d) (R' := mcR c.w a d p t g rem (ln + 1) q) hx (by simp) hk (let ⟨o, _, _, z, _⟩ := hns'; ⟨o, z⟩) mcR_stable fun v hv => by
    have hv : mcR c.w a d p t g rem ln q μ s3.heap v := hv
    refine ⟨hv.1, hv.2.upd (x := d) hdm.1 (fun b o nb _ ee => hk b o nb ee) hne.1.symm (.inr ⟨_, hns', ?_⟩) (.inl ⟨hne.2.2.2.2.1, rfl⟩) (.inl ⟨hne.2.2.2.1, rfl⟩)⟩
    have r6 := rk4.put (Str.ofString "lineno") (d := .int (ln + 1)) (.int (ln + 1) s3.toks)
    exact RpK.keep (fun _ n => n) (fun b o n e => hk b o (fun z => n (z ▸ hdm.1)) e) r6
  exact ⟨Out.next _, μ, hq, ⟨rfl, t5⟩, (tt.mv x1).trans ((t1.mv x13).trans mv5)⟩
end
end Mine
end

noncomputable section -- T9
open PySem PyProof.Rows
set_option maxRecDepth 100000
namespace Mine

noncomputable def lnUp (ln : Int) (l : List Nat) : Int := if l.take 1 = [10] then ln + 1 else ln

theorem fn_readchar (w : World) (a d p t g : Addr) (rem : List Nat) (ln : Int) (q : List (List Nat)) : FnO w (.ref 42) 3 [a, d, p, t] (mcR w a d p t g rem ln q) (mcR w a d p t g (rem.drop 1) (lnUp ln rem) q) [] (.str (S (rem.take 1))) := by
  refine FnO_intro (fd := fdReadChar) (body := bodyOf (subSt 2 1)) (p0 := Str.ofString "self") (ps := []) (v0 := .ref a) (by exact mem_lkA rfl) rfl ?_ rfl rfl (by decide) (by decide) (by decide) (by decide) rfl rfl rfl rfl rfl mcR_stable mcR_stable (fun _ _ _ r => r.1) (fun _ _ _ r => r.1) ?_
  · exact vs1 fun _ => rfl
  intro A μ s
  refine W_assignO (EvO_read (a := a) (d := d) (p := p) (t := t) (g := g) (rem := rem) (ln := ln) (q := q) rfl (Nat.le_refl _)) ⟨rfl, .inl rfl⟩ ?_
  refine W_if (Tst_cmp (Ev_name (d := .str (S (rem.take 1))) rfl) Ev_str (.isD _) .eqS) (fun hb => ?_) fun hb => W_end ?_
  · have e : rem.take 1 = [10] := S_inj (eq_of_beq hb)
    refine W_line (a := a) (d := d) (p := p) (t := t) (g := g) (rem := rem.drop 1) (ln := ln) (q := q) rfl (W_nil (W_ret (Ev_name (d := .str (S (rem.take 1))) rfl) ⟨rfl, ?_⟩))
    unfold lnUp; rw [if_pos e]; rfl
  · have e : ¬ rem.take 1 = [10] := fun z => by rw [z] at hb; exact absurd hb (by decide)
    refine W_ret (Ev_name (d := .str (S (rem.take 1))) rfl) ⟨rfl, ?_⟩
    unfold lnUp; rw [if_neg e]; rfl
end Mine
end

noncomputable section -- T10
open PySem PyProof.Rows
set_option maxRecDepth 100000
namespace Mine

section
variable {c : Cx} {ρ : Loc} {μ : Addr → Prop} {s s' : Shared} {Q : Out → Prop} {a d p t g : Addr} {rem : List Nat} {ln : Int} {q : List (List Nat)}

theorem EvV_pb {np ap : Pos} (hx : ρ (Str.ofString "self") = some (MC c.w a d p t g rem ln q)) (he : eval (.Attribute (.Name (Str.ofString "self") np) (Str.ofString "pushback") ap) c.env = (do
      let o' ← eval (.Name (Str.ofString "self") np) c.env
      standAt ap.atName
      let r ← holding [o'] (getAttr o' (Str.ofString "pushback") true)
      letTemporaryGo (.Name (Str.ofString "self") np) o' r
      pure r) := by with_unfolding_all rfl) : EvV c ρ (.Attribute (.Name (Str.ofString "self") np) (Str.ofString "pushback") ap) (olR c.w p (q.map fun x => .str (S x))) :=
  EvV_part (R := mcR c.w a d p t g rem ln q) hx (Ev_attrP (P := mcR c.w a d p t g rem ln q) (C := 59) (N := 58) (tab := netTab) (l := mcD ln g p) (d := .adr p) (EvV_name hx) (fun _ _ _ r => r.inst) (by exact mem_lkA rfl) (by exact mem_lk (by kernel_rfl)) (by exact mem_lk (by kernel_rfl)) lk_pushback rfl he) fun _ _ _ r => r.push

theorem SP_pb (hx : ρ (Str.ofString "self") = some (MC c.w a d p t g rem ln q)) : SP c ρ (olR c.w p (q.map fun x => .str (S x))) := fun μ s s' v tt x r => by
  obtain ⟨rfl, _⟩ := r
  obtain ⟨v1, r1⟩ := (tt.ext x).val hx
  exact (show mcR c.w a d p t g rem ln q μ s'.heap v1 from r1).push

theorem W_push {np ap1 apos pos spos : Pos} {e : Expr} {y : List Nat} {rest : List Stmt} (hx : ρ (Str.ofString "self") = some (MC c.w a d p t g rem ln q)) (h : Ev c ρ e (.str (S y))) (hz : q.length ≤ 1000) (hq : W c (upd ρ (Str.ofString "self") (MC c.w a d p t g rem ln (q ++ [y]))) rest Q)
    (he : eval (.Attribute (.Name (Str.ofString "self") np) (Str.ofString "pushback") ap1) c.env = (do
      let o' ← eval (.Name (Str.ofString "self") np) c.env
      standAt ap1.atName
      let r ← holding [o'] (getAttr o' (Str.ofString "pushback") true)
      letTemporaryGo (.Name (Str.ofString "self") np) o' r
      pure r) := by with_unfolding_all rfl)
    (hi : interactive c.env = false := by rfl) (hs : swapsWith (.Call (.Attribute (.Attribute (.Name (Str.ofString "self") np) (Str.ofString "pushback") ap1) (Str.ofString "append") apos) [e] [] pos) none spos.line c.env = pure false := by rfl)
    (hline : (apos.endLine == pos.line) = true := by rfl) (htrees : backTo pos (starEach [e] c.env) = [(false, eval e c.env)] := by rfl) :
    W c ρ (.Expr (.Call (.Attribute (.Attribute (.Name (Str.ofString "self") np) (Str.ofString "pushback") ap1) (Str.ofString "append") apos) [e] [] pos) spos :: rest) Q := W_cons fun μ s tt => by
  refine wpAny_Expr (wpAny_Call_append rfl (by rw [htrees]; rfl) hline htrees ?_) hi hs
  refine wpAny_mono (EvV_pb hx he μ s tt) (fun o s1 q1 => ?_) fun _ _ x => x
  have t1 := tt.ext q1.1
  have q1r := q1.2
  obtain ⟨rfl, vs, n, ho, hr⟩ := q1r
  refine ⟨p, vs, rfl, ⟨_, n, ho, rfl, rfl, rfl⟩, ?_⟩
  refine wpAny_mono (h μ s1 t1) (fun v s2 q2 => ?_) fun _ _ x => x
  have t2 := t1.ext q2.1
  obtain ⟨_, vs', n', ho', hr'⟩ := SP_pb hx μ s1 s2 _ t1 q2.1 q1.2
  have hl := hr'.length
  rw [Array.length_toList, List.length_map] at hl
  refine wpAny_list_append_plain ⟨n', ho'⟩ (fun h' hd' hs' => ?_) (by rw [hl, sizeLine_eq]; (first | lia | omega))
  obtain ⟨n3, ho3⟩ := hd'
  have hown := (t2.frame.own _ _ hx).2.2
  have hne := hne4 t2 hx
  have hμ := (hown p (by simp [MC, LV.adr])).1
  obtain ⟨t4, mv4⟩ := t2.setOwn (h' := h') (tk := s2.toks) (a := p) (R' := mcR c.w a d p t g rem ln (q ++ [y])) hx (by simp) (fun b o n e => hs'.extBut b o n e) ⟨_, ho3⟩ mcR_stable fun u hu => by
    have hu : mcR c.w a d p t g rem ln q μ s2.heap u := hu
    refine ⟨hu.1, hu.2.upd (x := p) hμ (fun b o nb _ ee => hs'.extBut b o nb ee) hne.2.1.symm (.inl ⟨hne.2.2.2.1.symm, rfl⟩) (.inl ⟨hne.2.2.2.2.2, rfl⟩) (.inr ⟨_, n3, ho3, ?_⟩)⟩
    rw [Array.toList_push, List.map_append]
    refine RpL.append ?_ (.cons ?_ .nil)
    · exact RpL.keep (fun _ n => n) (fun b o n e => hs'.extBut b o (fun z => n (z ▸ hμ)) e) hr'
    · exact Rp.keep (fun _ n => n) (fun b o n e => hs'.extBut b o (fun z => n (z ▸ hμ)) e) q2.2
  exact ⟨Out.next _, μ, hq, ⟨rfl, t4⟩, (tt.mv (q1.1.trans q2.1)).trans mv4⟩
end

theorem fn_push (w : World) (a d p t g : Addr) (rem : List Nat) (ln : Int) (q : List (List Nat)) (y : List Nat) (hz : q.length ≤ 1000) : FnO w (.ref 56) 1 [a, d, p, t] (mcR w a d p t g rem ln q) (mcR w a d p t g rem ln (q ++ [y])) [.str (S y)] .none := by
  refine FnO_intro (fd := fdPushToken) (body := bodyOf (subSt 2 3)) (p0 := Str.ofString "self") (ps := [Str.ofString "token"]) (v0 := .ref a) (by exact mem_lkA rfl) rfl ?_ rfl rfl (by decide) (by decide) (by decide) (by decide) rfl rfl rfl rfl rfl mcR_stable mcR_stable (fun _ _ _ r => r.1) (fun _ _ _ r => r.1) ?_
  · exact vs2 fun _ _ => rfl
  intro A μ s
  exact W_push (a := a) (d := d) (p := p) (t := t) (g := g) (rem := rem) (ln := ln) (q := q) rfl (Ev_name (d := .str (S y)) rfl) hz (W_nil ⟨rfl, rfl⟩)
end Mine
end

noncomputable section -- T11
open PySem PyProof.Rows
set_option maxRecDepth 100000
namespace Mine

noncomputable def fiR (a it bm : Addr) (ex : Bool) : VP := fun μ h v => v = .ref it ∧ (if ex then h.get? it = some (ciO .none .none true) else (∃ st, h.get? it = some (ciO (.ref bm) (.str ⟨#[]⟩ st) false)) ∧ ¬ μ bm ∧ h.get? bm = some (methO 42 (.ref a)))
noncomputable def FI (a it bm : Addr) (ex : Bool) : LV := .own [it] (fiR a it bm ex)
theorem fiR_stable {a it bm : Addr} {ex : Bool} : Stable [it] (fiR a it bm ex) := by
  rintro μ μ' h h' v hμ hk ⟨rfl, r⟩
  refine ⟨rfl, ?_⟩
  cases ex with
  | true => exact hk _ _ (.inr (by simp)) r
  | false =>
    obtain ⟨⟨st, e⟩, n, eb⟩ := r
    exact ⟨⟨st, hk _ _ (.inr (by simp)) e⟩, hμ _ _ eb n, hk _ _ (.inl n) eb⟩

section
variable {c : Cx} {ρ : Loc} {μ : Addr → Prop} {s s' : Shared} {Q : Out → Prop} {a d p t g : Addr} {rem : List Nat} {ln : Int} {q : List (List Nat)}

theorem EvO_pop {np ap1 ap2 pos ip : Pos} {ke : Nat} {y : List Nat} {pl : Sem Bool} (hx : ρ (Str.ofString "self") = some (MC c.w a d p t g rem ln (y :: q))) (hz : q.length ≤ 1000)
    (ha : eval (.Attribute (.Name (Str.ofString "self") np) (Str.ofString "pushback") ap1) c.env = (do
      let o' ← eval (.Name (Str.ofString "self") np) c.env
      standAt ap1.atName
      let r ← holding [o'] (getAttr o' (Str.ofString "pushback") true)
      letTemporaryGo (.Name (Str.ofString "self") np) o' r
      pure r) := by with_unfolding_all rfl)
    (he : eval (.Call (.Attribute (.Attribute (.Name (Str.ofString "self") np) (Str.ofString "pushback") ap1) (Str.ofString "pop") ap2) [.Constant (.int 0) ke ip] [] pos) c.env = (do
      let ov ← eval (.Attribute (.Name (Str.ofString "self") np) (Str.ofString "pushback") ap1) c.env
      standAt ap2.atName
      let (f, first) ← holding [ov] (getMethod ov (Str.ofString "pop") pl)
      callWith pos f first (backTo pos (starEach [.Constant (.int 0) ke ip] c.env)) []) := by rfl)
    (hst : starEach [Expr.Constant (.int 0) ke ip] c.env = [(false, eval (.Constant (.int 0) ke ip) c.env)] := by rfl) :
    EvO c ρ (.Call (.Attribute (.Attribute (.Name (Str.ofString "self") np) (Str.ofString "pushback") ap1) (Str.ofString "pop") ap2) [.Constant (.int 0) ke ip] [] pos) (Str.ofString "self") (MC c.w a d p t g rem ln q) (.str (S y)) := fun μ s tt => by
  refine MethodCall_ (pl := pl) (wpAny_mono (EvV_pb hx ha μ s tt) (fun v s1 q1 => ?_) fun _ _ x => x) he
  obtain ⟨x1, q1r⟩ := q1
  have t1 := tt.ext x1
  have q1r' := q1r
  obtain ⟨rfl, vs, n, ho, hr⟩ := q1r
  refine getMethod_builtin (T := "list") ⟨_, ho, rfl⟩ PySem.F.plainAttrs_list PySem.F.slot_list_pop PySem.F.type_list_pop (fun b e => by cases e; exact ⟨_, ho, rfl⟩) ?_
  refine callWith_method1 (args_cons (wpAny_mono (Ev_int (i := 0) (k := ke) (pos := ip) μ s1 t1) (fun u s2 q2 => args_nil ?_) fun _ _ x => x) hst) hst
  obtain ⟨x2, ru⟩ := q2
  have t2 := t1.ext x2
  obtain ⟨_, vs2, n2, ho2, hr2⟩ := SP_pb hx μ s1 s2 _ t1 x2 q1r'
  cases ru using Rp.elimInt with
  | int u =>
  rw [List.map_cons] at hr2
  obtain ⟨v0, vt, hvs, r0, rt⟩ : ∃ v0 vt, vs2.toList = v0 :: vt ∧ Rp c.w μ s2.heap v0 (.str (S y)) ∧ RpL c.w μ s2.heap vt (q.map fun x => .str (S x)) := by
    generalize vs2.toList = l at hr2
    cases hr2 using RpL.elimCons with | cons a b => exact ⟨_, _, rfl, a, b⟩
  have hvs' : vs2 = (v0 :: vt).toArray := by rw [← Array.toArray_toList (xs := vs2), hvs]
  have hsz : vs2.size = q.length + 1 := by rw [hvs', List.size_toArray, List.length_cons, rt.length, List.length_map]
  refine call_meets PySem.F.slot_list_pop ⟨_, ho2, rfl⟩ PySem.F.entry_list_pop (PySem.F.args_list_pop_2 _ _) (MeetsSeq.list_pop_at p vs2 n2 0 u 0 v0 (by decide) (by unfold seqIndex?; rw [hsz]; simp) (by rw [hvs']; rfl) (by rw [hsz, sizeLine_eq]; (first | lia | omega))) ⟨ho2, ?_⟩
  have hown := (t2.frame.own _ _ hx).2.2
  have hne := hne4 t2 hx
  have hμ := (hown p (by simp [MC, LV.adr])).1
  obtain ⟨e1, g1⟩ : ∃ e1, (s2.heap.update p (Obj.mapSeq fun xs => xs.eraseIdxIfInBounds 0)).get? p = some (seqObj "list" (vs2.eraseIdxIfInBounds 0) e1) := ⟨_, get?_update_seq ho2 fun x => x.eraseIdxIfInBounds 0⟩
  have hs' : Heap.SameBut p s2.heap (s2.heap.update p (Obj.mapSeq fun xs => xs.eraseIdxIfInBounds 0)) := Heap.SameBut.update ..
  have herase : (vs2.eraseIdxIfInBounds 0).toList = vt := by rw [hvs']; simp
  generalize s2.heap.update p (Obj.mapSeq fun xs => xs.eraseIdxIfInBounds 0) = h' at g1 hs' ⊢
  obtain ⟨t4, mv4⟩ := t2.setOwn (h' := h') (tk := s2.toks) (a := p) (R' := mcR c.w a d p t g rem ln q) hx (by simp) (fun b o n e => hs'.extBut b o n e) ⟨_, g1⟩ mcR_stable fun u hu => by
    have hu : mcR c.w a d p t g rem ln (y :: q) μ s2.heap u := hu
    refine ⟨hu.1, hu.2.upd (x := p) hμ (fun b o nb _ ee => hs'.extBut b o nb ee) hne.2.1.symm (.inl ⟨hne.2.2.2.1.symm, rfl⟩) (.inl ⟨hne.2.2.2.2.2, rfl⟩) (.inr ⟨_, e1, g1, ?_⟩)⟩
    rw [herase]
    exact RpL.keep (fun _ n => n) (fun b o n e => hs'.extBut b o (fun z => n (z ▸ hμ)) e) rt
  refine ⟨t4, (tt.mv (x1.trans x2)).trans mv4, ?_⟩
  exact Rp.keep (fun _ n => n) (fun b o n e => hs'.extBut b o (fun z => n (z ▸ hμ)) e) r0

theorem W_iter {fp ip np ap kp cp pos : Pos} {ke : Nat} {x0 : Str} {rest : List Stmt} (hx : ρ (Str.ofString "self") = some (MC c.w a d p t g rem ln q)) (hy : Storable c (Str.ofString "fiter")) (h0 : x0 = ⟨#[]⟩) (hk : c.env.kindOf (Str.ofString "iter") = some .globalImplicit)
    (hq : ∀ it bm, W c (upd ρ (Str.ofString "fiter") (FI a it bm false)) rest Q)
    (ha : eval (.Attribute (.Name (Str.ofString "self") np) (Str.ofString "_read_char") ap) c.env = (do
      let o' ← eval (.Name (Str.ofString "self") np) c.env
      standAt ap.atName
      let r ← holding [o'] (getAttr o' (Str.ofString "_read_char") true)
      letTemporaryGo (.Name (Str.ofString "self") np) o' r
      pure r) := by with_unfolding_all rfl)
    (he : starEach [Expr.Attribute (.Name (Str.ofString "self") np) (Str.ofString "_read_char") ap, .Constant (.str x0) ke kp] c.env = (false, eval (.Attribute (.Name (Str.ofString "self") np) (Str.ofString "_read_char") ap) c.env) :: starEach [.Constant (.str x0) ke kp] c.env := by rfl)
    (he' : starEach [Expr.Constant (.str x0) ke kp] c.env = [(false, eval (.Constant (.str x0) ke kp) c.env)] := by rfl)
    (hs : swapsWith (.Call (.Name (Str.ofString "iter") ip) [.Attribute (.Name (Str.ofString "self") np) (Str.ofString "_read_char") ap, .Constant (.str x0) ke kp] [] cp) (some (.Name (Str.ofString "fiter") fp)) pos.line c.env = pure false := by rfl) :
    W c ρ (.Assign [.Name (Str.ofString "fiter") fp] (.Call (.Name (Str.ofString "iter") ip) [.Attribute (.Name (Str.ofString "self") np) (Str.ofString "_read_char") ap, .Constant (.str x0) ke kp] [] cp) pos :: rest) Q := W_cons fun μ s tt => by
  subst h0
  refine wpAny_Assign_Name (Call_ (wpAny_mono (EvV_blt (v := .builtin "iter") (by decide) boot_iter hk (by decide) (by decide) μ s tt) (fun v s0 q0 => ?_) fun _ _ x => x)) hs
  obtain ⟨x0, rfl⟩ := q0
  have t0 := tt.ext x0
  refine callWith_builtin1 (args_cons ?_ he) he (by
      show (backTo cp (starEach [Expr.Constant (.str (⟨#[]⟩ : Str)) ke kp] c.env)).any (·.1) = false
      rw [he']; rfl)
  refine Attribute_any_ (wpAny_mono (EvV_name hx μ s0 t0) (fun v s1 q1 => ?_) fun _ _ x => x) ha
  obtain ⟨x1, rv⟩ := q1
  have t1 := t0.ext x1
  have rv : mcR c.w a d p t g rem ln q μ s1.heap v := rv
  obtain ⟨rfl, rm⟩ := rv
  obtain ⟨mN, X, hX⟩ := t1.g.cls (59, 58, netTab) (by exact mem_lkA rfl)
  refine cls_elim X fun nm q' bs sn sub col dd k0 k1 k2 k3 k5 hC => ?_
  obtain ⟨o, eo, hoo⟩ := rm.obj
  obtain ⟨kvs, ns, rk⟩ := rm.ns
  have hfo := (t1.g.fns (42, fdReadChar) (by exact mem_lkA rfl)).1
  obtain ⟨hp, gg, dr, tk, os⟩ := s1
  refine bound_attr (fd := fdReadChar) hC X.ns (hX (Str.ofString "_read_char", some (.ref 42)) (by exact mem_lk (by kernel_rfl))) (hX (Str.ofString "__getattribute__", none) (by exact mem_lk (by kernel_rfl))) (hX (Str.ofString "__getattr__", none) (by exact mem_lk (by kernel_rfl))) lk_read_char (inst_of eo hoo rm.ne ns) (rk.lookNone rfl) hfo rfl rfl ?_
  have x2 : Ext ⟨hp, gg, dr, tk, os⟩ ⟨hp.push (methO 42 (.ref a)), gg, dr, tk + 1, os⟩ := Ext.push ⟨hp, gg, dr, tk, os⟩ (methO 42 (.ref a)) (tk + 1)
  have t2 := t1.ext x2
  refine args_cons (wpAny_mono (Ev_str (x := ⟨#[]⟩) (k := ke) (pos := kp) μ _ t2) (fun u s3 q3 => ?_) fun _ _ x => x) he'
  obtain ⟨x3, ru⟩ := q3
  have t3 := t2.ext x3
  cases ru using Rp.elimStr with
  | str tku =>
  have eb2 : (hp.push (methO 42 (.ref a))).get? hp.objs.size = some (methO 42 (.ref a)) := Heap.get?_push_size _ rfl
  have nbm : ¬ μ hp.objs.size := fresh_not (s := ⟨hp, gg, dr, tk, os⟩) t1 (Nat.le_refl _)
  have n72 : hp.objs.size ≠ 72 := fun z => nbm (z ▸ tt.mu72)
  have eb3 : s3.heap.get? hp.objs.size = some (methO 42 (.ref a)) := x3.keep _ _ eb2 n72
  refine args_nil (call_iter2 eb3 ?_)
  have x4 := Ext.push s3 (ciO (.ref hp.objs.size) (.str ⟨#[]⟩ tku) false) s3.toks
  have t4 := t3.grow x4 (Nat.le_refl _) ⟨_, Heap.get?_push_size _ rfl⟩
  have mv4 := Mv.grow (c := c) t3 x4 (Nat.le_refl _)
  refine wp_store t4 hy (Held_new t3 (Nat.le_refl _) (fiR_stable (a := a) (bm := hp.objs.size) (ex := false))) ?_ fun s' t' mv => ⟨Out.next _, _, hq _ hp.objs.size, ⟨rfl, t'⟩, ((tt.mv x0).trans ((t0.mv x1).trans ((t1.mv x2).trans (t2.mv x3)))).trans (mv4.trans mv)⟩
  refine ⟨rfl, ⟨tku, Heap.get?_push_size _ rfl⟩, fun z => z.elim nbm fun z => ?_, Heap.get?_push_of_some _ eb3⟩
  exact Nat.lt_irrefl _ (z ▸ Heap.lt_size eb3)
end
end Mine
end

noncomputable section -- T12
open PySem PyProof.Rows
set_option maxRecDepth 100000
namespace Mine
section
variable {c : Cx} {ρ : Loc} {μ : Addr → Prop} {s s' : Shared} {Q : Out → Prop} {a d p t g it bm : Addr} {q : List (List Nat)}

theorem X_for_fiter {px np pos : Pos} {body : List Stmt} (J : List Nat → Int → Bool → Loc → Prop) (hJ : ∀ r l ex ρ', J r l ex ρ' → ρ' (Str.ofString "self") = some (MC c.w a d p t g r l q) ∧ ρ' (Str.ofString "fiter") = some (FI a it bm ex))
    {r0 : List Nat} {l0 : Int} {ex0 : Bool} (h0 : J r0 l0 ex0 ρ) (hch : Storable c (Str.ofString "ch")) (hrk : 4 ≤ c.rk)
    (step : ∀ x r l ρ', J (x :: r) l false ρ' → W c (upd (upd ρ' (Str.ofString "self") (MC c.w a d p t g r (lnUp l [x]) q)) (Str.ofString "ch") (.fz (.str (S [x])))) body (Turn (fun ρ'' => ∃ r' l' ex', r'.length ≤ r.length ∧ J r' l' ex' ρ'') Q))
    (doneE : ∀ r l ρ', J r l true ρ' → Q (.next ρ'))
    (doneN : ∀ l ρ', J [] l false ρ' → Q (.next (upd (upd ρ' (Str.ofString "self") (MC c.w a d p t g [] l q)) (Str.ofString "fiter") (FI a it bm true))))
    (hs : ∀ v, foldedSetIterable (.Name (Str.ofString "fiter") np) c.env v = pure v := by intro _; rfl) : X c ρ (.For (.Name (Str.ofString "ch") px) (.Name (Str.ofString "fiter") np) body [] pos) Q := fun μ s tt => by
  obtain ⟨hself0, hfi0⟩ := hJ _ _ _ _ h0
  refine wpAny_For (wpAny_mono (EvV_name hfi0 μ s tt) (fun v s₁ q1 => ?_) fun _ _ x => x) hs
  obtain ⟨x1, rv⟩ := q1
  have t1 := tt.ext x1
  have rv : fiR a it bm ex0 μ s₁.heap v := rv
  obtain ⟨rfl, rr⟩ := rv
  have hit : ∃ b' sn' e', s₁.heap.get? it = some (ciO b' sn' e') := by
    cases ex0 with
    | true => exact ⟨_, _, _, rr⟩
    | false => obtain ⟨⟨st, e⟩, _⟩ := rr; exact ⟨_, _, _, e⟩
  obtain ⟨b', sn', e', hit⟩ := hit
  refine pyIter_ci hit ?_
  refine codeAny_forLoop (fun n s' => ∃ μ' ρ' r l ex, StM c μ' ρ' s' ∧ J r l ex ρ' ∧ Mv c μ μ' s₁ s' ∧ n = 2 * r.length + (if ex then 0 else 1)) ?_ _ ⟨μ, ρ, r0, l0, ex0, t1, h0, .refl, rfl⟩
  rintro n s' ⟨μ', ρ', r, l, ex, t', hj, mv, rfl⟩
  obtain ⟨hself, hfi⟩ := hJ _ _ _ _ hj
  obtain ⟨v', rv'⟩ := t'.val hfi
  have rv' : fiR a it bm ex μ' s'.heap v' := rv'
  cases ex with
  | true =>
    obtain ⟨rfl, e⟩ := rv'
    refine next_ci_ended t'.room.1 e fun h' hk => ?_
    have x2 : Ext s' { s' with heap := h' } := Ext.of_keep (tk := s'.toks) hk
    exact wpAny_execs_nil ⟨_, _, doneE _ _ _ hj, ⟨rfl, t'.ext x2⟩, (tt.mv x1).trans (mv.trans (t'.mv x2))⟩
  | false =>
    obtain ⟨rfl, ⟨st, e⟩, nb, eb⟩ := rv'
    have hownI := (t'.frame.own _ _ hfi).2.2 it (by simp [FI, LV.adr])
    have hne : bm ≠ it := fun z => nb (z ▸ hownI.1)
    obtain ⟨_, hnd, hown⟩ := t'.frame.own _ _ hself
    obtain ⟨v4, r4⟩ := t'.val hself
    have r4 : mcR c.w a d p t g r l q μ' s'.heap v4 := r4
    have hv4 := r4.1
    subst hv4
    have hitas : it ∉ [a, d, p, t] := fun z => t'.frame.sep _ _ _ _ hfi hself (by decide) it (by simp [FI, LV.adr]) z
    have hbmas : bm ∉ [a, d, p, t] := fun z => nb (hown bm z).1
    have n72 : ∀ b, Big b → b ≠ 72 := fun b hb z => absurd (z ▸ hb) (by decide)
    have hbm72 : bm ≠ 72 := fun z => nb (z ▸ t'.mu72)
    have rm : Room c.A.in1 3 := by
      have := t'.room
      refine ⟨this.1, ?_, ?_⟩
      · show c.A.depth + 3 < 900; have := this.2.1; (first | lia | omega)
      · show c.A.units + 1 + 100 * 3 + 1000 < 9900; have := this.2.2; (first | lia | omega)
    refine next_ci t'.room.1 e eb hne ⟨_, _, (t'.g.fns (42, fdReadChar) (by exact mem_lkA rfl)).1, rfl⟩ (codeAny_mono (fn_readchar c.w a d p t g r l q c.A.in1 μ' s' (.ref a) [] rm t'.g t'.muOk hnd (fun b hb => ⟨(hown b hb).1, (hown b hb).2.2.2.2⟩) r4 .nil) fun res s2 hr => ?_)
    rcases res with er | (v | _ | _ | _) <;> first | exact hr.elim | skip
    obtain ⟨xs, r2, rr⟩ := hr
    have hfn2 := (t'.g.fns (42, fdReadChar) (by exact mem_lkA rfl)).1
    have e2 : s2.heap.get? it = some (ciO (.ref bm) (.str ⟨#[]⟩ st) false) := xs.keep _ _ e (n72 it hownI.2.2.2.2) hitas
    have eb2 : s2.heap.get? bm = some (methO 42 (.ref a)) := xs.keep _ _ eb hbm72 hbmas
    obtain ⟨t2, mv2⟩ := t'.callS hself xs mcR_stable fun u hu => by
      have hu : mcR c.w a d p t g r l q μ' s'.heap u := hu
      rw [hu.1]; exact r2
    have hfn3 := (t2.g.fns (42, fdReadChar) (by exact mem_lkA rfl)).1
    have mvT : Mv c μ μ' s s2 := (tt.mv x1).trans (mv.trans mv2)
    cases r with
    | nil =>
      cases rr using Rp.elimStr with
      | str tkr =>
      refine ⟨S ([].take 1), tkr, rfl, e2, eb2, ⟨_, _, hfn3, rfl⟩, fun h => absurd rfl h, fun _ h' hz hk => ?_⟩
      have hfi2 : (upd ρ' (Str.ofString "self") (MC c.w a d p t g [] l q)) (Str.ofString "fiter") = some (FI a it bm false) := hfi
      have t2' : StM c μ' (upd ρ' (Str.ofString "self") (MC c.w a d p t g [] l q)) s2 := t2
      obtain ⟨t3, mv3⟩ := t2'.setOwn (h' := h') (tk := s2.toks) (a := it) (R' := fiR a it bm true) hfi2 (by simp) hk ⟨_, hz⟩ fiR_stable fun u hu => by
        have hu : fiR a it bm false μ' s2.heap u := hu
        exact ⟨hu.1, hz⟩
      exact wpAny_execs_nil ⟨_, _, doneN _ _ hj, ⟨rfl, t3⟩, mvT.trans mv3⟩
    | cons x r1 =>
      cases rr using Rp.elimStr with
      | str tkr =>
      refine ⟨S [x], tkr, rfl, e2, eb2, ⟨_, _, hfn3, rfl⟩, fun _ => ?_, fun h => absurd (S_inj (b := []) h) (by simp)⟩
      have t2' : StM c μ' (upd ρ' (Str.ofString "self") (MC c.w a d p t g r1 (lnUp l [x]) q)) s2 := t2
      refine wpAny_assign_Name (wpAny_mono (wp_store (R := fun _ s4 => StM c μ' (upd (upd ρ' (Str.ofString "self") (MC c.w a d p t g r1 (lnUp l [x]) q)) (Str.ofString "ch") (.fz (.str (S [x])))) s4 ∧ Mv c μ' μ' s2 s4) t2' hch .fz (.str (S [x]) tkr) fun s4 y z => ⟨y, z⟩) (fun _ s4 qq => ?_) fun _ _ z => z.elim)
      obtain ⟨t4, mv4⟩ := qq
      refine wpAny_mono (step x r1 l ρ' hj μ' s4 t4) (fun f s5 qq => ?_) fun _ _ z => z.elim
      obtain ⟨o, μ5, qo, r5, mv5⟩ := qq
      have mv15 : Mv c μ μ5 s₁ s5 := mv.trans (mv2.trans (mv4.trans mv5))
      have mvF : Mv c μ μ5 s s5 := (tt.mv x1).trans mv15
      have dec : ∀ (r' : List Nat) (ex' : Bool), r'.length ≤ r1.length → 2 * r'.length + (if ex' then 0 else 1) < 2 * (x :: r1).length + (if false = true then 0 else 1) := by
        intro r' ex' hle
        cases ex' <;> simp <;> (first | lia | omega)
      cases o with
      | next ρ'' => obtain ⟨rfl, r5⟩ := r5; obtain ⟨r', l', ex', hle, hj'⟩ := qo; exact ⟨_, dec r' ex' hle, μ5, ρ'', r', l', ex', r5, hj', mv15, rfl⟩
      | cont ρ'' => obtain ⟨rfl, r5⟩ := r5; obtain ⟨r', l', ex', hle, hj'⟩ := qo; exact ⟨_, dec r' ex' hle, μ5, ρ'', r', l', ex', r5, hj', mv15, rfl⟩
      | brk ρ'' => obtain ⟨rfl, r5⟩ := r5; exact ⟨_, μ5, qo, ⟨rfl, r5⟩, mvF⟩
      | ret dd ρ'' => obtain ⟨v, rfl, r5, rr5⟩ := r5; exact ⟨_, μ5, qo, ⟨v, rfl, r5, rr5⟩, mvF⟩
end
end Mine
end

noncomputable section -- T13
open PySem PyProof.Rows
set_option maxRecDepth 100000
namespace Mine

noncomputable def isWs (c : Nat) : Bool := c == 10 || c == 9 || c == 13 || c == 32
theorem ws_in (x : Nat) : (!(Builtin.Str.occurrences wsStr (S [x]) 0 wsStr.length 1).isEmpty) = isWs x := by
  by_cases h : isWs x = true
  · have h' := h
    unfold isWs at h'
    simp only [Bool.or_eq_true, beq_iff_eq] at h'
    rw [h]
    rcases h' with ((rfl | rfl) | rfl) | rfl <;> decide +kernel
  · have hf : isWs x = false := by simpa using h
    rw [hf]
    have : Builtin.Str.occurrences wsStr (S [x]) 0 wsStr.length 1 = [] := by
      refine PySem.W.occ_nil_of_no (x := wsStr) (y := S [x]) (lim := 1) (h := fun i hi => ?_)
      have hl : (S [x]).length = 1 := S_length _
      have hw : wsStr.length = 4 := S_length _
      rw [hl, hw] at hi
      unfold Builtin.Str.subAt
      rw [hl]
      unfold isWs at hf
      simp only [Bool.or_eq_false_iff, beq_eq_false_iff_ne] at hf
      obtain ⟨⟨⟨h1, h2⟩, h3⟩, h4⟩ := hf
      have : i = 0 ∨ i = 1 ∨ i = 2 ∨ i = 3 := by (first | lia | omega)
      rw [beq_eq_false_iff_ne]
      intro e
      have e' := congrArg Array.toList e
      rcases this with rfl | rfl | rfl | rfl <;> simp [wsStr, S] at e' <;> (first | lia | omega)
    rw [this]; rfl

section
variable {c : Cx} {ρ : Loc} {μ : Addr → Prop} {s s' : Shared} {Q : Out → Prop}
theorem Op2.inWs {x : Nat} : Op2 c ρ (compareOp .In) (isD c.w (.str (S [x]))) (isD c.w (.str wsStr)) (isD c.w (.bool (isWs x))) := fun μ s v1 v2 t r1 r2 => by
  cases r1 using Rp.elimStr; cases r2 using Rp.elimStr
  refine PyProof.Rows.in_str ⟨.refl s, ?_⟩
  rw [ws_in]; exact .bool _

theorem W_augS {x : Str} {p pos : Pos} {e : Expr} {u y : List Nat} {rest : List Stmt} (hx : ρ x = some (.fz (.str (S u)))) (h : Ev c ρ e (.str (S y))) (hs : Storable c x) (hz : u.length + y.length ≤ 100000) (hq : W c (upd ρ x (.fz (.str (S (u ++ y))))) rest Q) :
    W c ρ (.AugAssign (.Name x p) .Add e pos :: rest) Q := W_cons fun μ s t => by
  refine wpAny_AugAssign_Name ?_
  obtain ⟨m, hn, hv⟩ := t.frame.var
  obtain ⟨ok, v, va, r⟩ := hv x _ hx
  unfold okName at ok
  rw [Bool.and_eq_true, Bool.not_eq_true', Bool.not_eq_true'] at ok
  have key : ∀ (v : Value), Rp c.w μ s.heap v (.str (S u)) → wpAny (model PG c.w) c.A (eval e c.env) (fun w₂ s₂ => wpAny (model PG c.w) c.A (inplaceOp .Add v w₂) (fun r s₃ => wpAny (model PG c.w) c.A (storeName c.env x r) (fun _ => Ends c μ s (After c rest Q) .next) NoE s₃) NoE s₂) NoE s := fun v r => by
    refine wpAny_mono (h μ s t) (fun v2 s2 q2 => ?_) fun _ _ x => x
    obtain ⟨x2, r2⟩ := q2
    cases r using Rp.elimStr; cases r2 using Rp.elimStr
    refine PyProof.Rows.iadd_str (fun t' tk => ?_) (by rw [S_length, S_length, sizeLine_eq]; (first | lia | omega))
    rw [S_append]
    have x3 := Ext.toks s2 tk
    exact wp_store ((t.ext x2).ext x3) hs .fz (.str _ _) fun s4 t4 mv4 => ⟨Out.next _, μ, hq, ⟨rfl, t4⟩, (t.mv (x2.trans x3)).trans mv4⟩
  rcases va with ⟨k, e⟩ | ⟨k | k, cl, e1, e2⟩
  · exact wpAny_loadName_local t.frame.kind k hn e (key v r)
  · exact wpAny_loadName_cell t.frame.kind k e1 e2 (key v r)
  · exact wpAny_loadName_free t.frame.kind k e1 e2 (key v r) ok.2
end
end Mine
end

noncomputable section -- T14
open PySem PyProof.Rows
set_option maxRecDepth 100000
namespace Mine

noncomputable def tkQ (tok : List Nat) : List Nat → Int → List Nat × List Nat × Int
  | [], l => (tok, [], l)
  | c :: r, l =>
    if c = 34 then (tok, r, lnUp l [c])
    else if c = 92 then (match r with
      | [] => (tok, [], lnUp l [c])
      | c' :: r' => tkQ (tok ++ [c']) r' (lnUp (lnUp l [c]) [c']))
    else tkQ (tok ++ [c]) r (lnUp l [c])
noncomputable def tkB (tok : List Nat) : List Nat → Int → List Nat × List Nat × Int
  | [], l => (tok, [], l)
  | c :: r, l =>
    if isWs c then (tok, r, lnUp l [c])
    else if c = 92 then (match r with
      | [] => (tok, [], lnUp l [c])
      | c' :: r' => tkB (tok ++ [c']) r' (lnUp (lnUp l [c]) [c']))
    else tkB (tok ++ [c]) r (lnUp l [c])
noncomputable def tkF : List Nat → Int → List Nat × List Nat × Int
  | [], l => ([], [], l)
  | c :: r, l =>
    if isWs c then tkF r (lnUp l [c])
    else if c = 34 then tkQ [] r (lnUp l [c])
    else if c = 92 then (match r with
      | [] => ([], [], lnUp l [c])
      | c' :: r' => tkB [c'] r' (lnUp (lnUp l [c]) [c']))
    else tkB [c] r (lnUp l [c])

theorem ch_eq {x : Nat} {k : Nat} {y : Str} (hy : y = S [k]) {b : Bool} (h : ((S [x]) == y) = b) : b = decide (x = k) := by
  subst hy; subst h
  by_cases e : x = k
  · subst e; simp
  · have : S [x] ≠ S [k] := fun z => e (by have := S_inj z; simpa using this)
    simp [e, this]

section
variable {c : Cx} {ρ : Loc} {μ : Addr → Prop} {s s' : Shared} {Q : Out → Prop} {a d p t g : Addr} {rem : List Nat} {ln : Int} {q : List (List Nat)}

theorem Ev_wsA {np ap : Pos} (hx : ρ (Str.ofString "self") = some (MC c.w a d p t g rem ln q)) (he : eval (.Attribute (.Name (Str.ofString "self") np) (Str.ofString "whitespace") ap) c.env = (do
      let o' ← eval (.Name (Str.ofString "self") np) c.env
      standAt ap.atName
      let r ← holding [o'] (getAttr o' (Str.ofString "whitespace") true)
      letTemporaryGo (.Name (Str.ofString "self") np) o' r
      pure r) := by with_unfolding_all rfl) : Ev c ρ (.Attribute (.Name (Str.ofString "self") np) (Str.ofString "whitespace") ap) (.str wsStr) :=
  Ev_attrP (P := mcR c.w a d p t g rem ln q) (C := 59) (N := 58) (tab := netTab) (l := mcD ln g p) (EvV_name hx) (fun _ _ _ r => r.inst) (by exact mem_lkA rfl) (by exact mem_lk (by kernel_rfl)) (by exact mem_lk (by kernel_rfl)) lk_whitespace rfl he

theorem W_readchar {cp np ap ep pos : Pos} {rest : List Stmt} {pl : Sem Bool} (hx : ρ (Str.ofString "self") = some (MC c.w a d p t g rem ln q)) (hy : Storable c (Str.ofString "ch")) (hr : 3 ≤ c.rk)
    (hq : W c (upd (upd ρ (Str.ofString "self") (MC c.w a d p t g (rem.drop 1) (lnUp ln rem) q)) (Str.ofString "ch") (.fz (.str (S (rem.take 1))))) rest Q)
    (he : eval (.Call (.Attribute (.Name (Str.ofString "self") np) (Str.ofString "_read_char") ap) [] [] ep) c.env = (do
      let ov ← eval (.Name (Str.ofString "self") np) c.env
      standAt ap.atName
      let (f, first) ← holding [ov] (getMethod ov (Str.ofString "_read_char") pl)
      callWith ep f first (backTo ep (starEach [] c.env)) []) := by rfl)
    (hs : swapsWith (.Call (.Attribute (.Name (Str.ofString "self") np) (Str.ofString "_read_char") ap) [] [] ep) (some (.Name (Str.ofString "ch") cp)) pos.line c.env = pure false := by rfl) :
    W c ρ (.Assign [.Name (Str.ofString "ch") cp] (.Call (.Attribute (.Name (Str.ofString "self") np) (Str.ofString "_read_char") ap) [] [] ep) pos :: rest) Q :=
  W_assignO (EvO_meth0 (pl := pl) (R := mcR c.w a d p t g rem ln q) (v0 := .ref a) (C := 59) (N := 58) (tab := netTab) (l := mcD ln g p) (fd := fdReadChar) hx (fun _ _ _ r => r.inst) (fun _ _ _ r => r.1) mcR_stable (by exact mem_lkA rfl) (by exact mem_lk (by kernel_rfl)) (by exact mem_lk (by kernel_rfl)) (f := 42) (by exact mem_lk (by kernel_rfl)) (by exact mem_lkA rfl) lk_read_char rfl (fn_readchar c.w a d p t g rem ln q) hr he) hy hq hs
end
end Mine
end

noncomputable section -- T15
open PySem PyProof.Rows
set_option maxRecDepth 100000
namespace Mine

theorem fn_token_pop (w : World) (a d p t g : Addr) (rem : List Nat) (ln : Int) (q : List (List Nat)) (y : List Nat) (hz : q.length ≤ 1000) : FnO w (.ref 49) 5 [a, d, p, t] (mcR w a d p t g rem ln (y :: q)) (mcR w a d p t g rem ln q) [] (.str (S y)) := by
  refine FnO_intro (fd := fdGetToken) (body := bodyOf (subSt 2 2)) (p0 := Str.ofString "self") (ps := []) (v0 := .ref a) (by exact mem_lkA rfl) rfl ?_ rfl rfl (by decide) (by decide) (by decide) (by decide) rfl rfl rfl rfl rfl mcR_stable mcR_stable (fun _ _ _ r => r.1) (fun _ _ _ r => r.1) ?_
  · exact vs1 fun _ => rfl
  intro A μ s
  refine W_if (Tst_listP (ds := (y :: q).map fun x => .str (S x)) (EvV_pb (a := a) (d := d) (p := p) (t := t) (g := g) (rem := rem) (ln := ln) (q := y :: q) rfl) (fun _ _ _ => lsP.ol) (by simp; (first | lia | omega))) (fun _ => ?_) fun h => ?_
  · exact W_retO (EvO_pop (a := a) (d := d) (p := p) (t := t) (g := g) (rem := rem) (ln := ln) (q := q) (y := y) rfl hz) ⟨rfl, rfl⟩
  · simp at h

structure TkSt (w : World) (a d p t g it bm : Addr) (F : List Nat → List Nat → Int → List Nat × List Nat × Int) (T : List Nat × List Nat × Int) (r : List Nat) (l : Int) (ex : Bool) (ρ' : Loc) (tok : List Nat) : Prop where
  g1 : ρ' (Str.ofString "self") = some (MC w a d p t g r l [])
  g2 : ρ' (Str.ofString "fiter") = some (FI a it bm ex)
  g3 : ρ' (Str.ofString "token") = some (.fz (.str (S tok)))
  g5 : tok.length + r.length ≤ 20000
  g4 : (ex = false ∧ F tok r l = T) ∨ (ex = true ∧ r = [] ∧ T = (tok, [], l))
theorem fn_token (w : World) (a d p t g : Addr) (rem : List Nat) (ln : Int) (hz : rem.length ≤ 10000) : FnO w (.ref 49) 5 [a, d, p, t] (mcR w a d p t g rem ln []) (mcR w a d p t g (tkF rem ln).2.1 (tkF rem ln).2.2 []) [] (.str (S (tkF rem ln).1)) := by
  refine FnO_intro (fd := fdGetToken) (body := bodyOf (subSt 2 2)) (p0 := Str.ofString "self") (ps := []) (v0 := .ref a) (by exact mem_lkA rfl) rfl ?_ rfl rfl (by decide) (by decide) (by decide) (by decide) rfl rfl rfl rfl rfl mcR_stable mcR_stable (fun _ _ _ r => r.1) (fun _ _ _ r => r.1) ?_
  · exact vs1 fun _ => rfl
  intro A μ s
  generalize hT : tkF rem ln = T
  refine W_if (Tst_listP (ds := []) (EvV_pb (a := a) (d := d) (p := p) (t := t) (g := g) (rem := rem) (ln := ln) (q := []) rfl) (fun _ _ _ => lsP.ol) (by simp)) (fun h => by simp at h) fun _ => W_nil ?_
  refine W_assign (Ev_str (x := ⟨#[]⟩)) ⟨rfl, .inl rfl⟩ ?_
  refine W_iter (a := a) (d := d) (p := p) (t := t) (g := g) (rem := rem) (ln := ln) (q := []) rfl ⟨rfl, .inl rfl⟩ rfl rfl fun it bm => ?_
  let c := callCxS w A 4 fdGetToken 49 s μ [a, d, p, t]
  have hch : Storable c (Str.ofString "ch") := ⟨rfl, .inl rfl⟩
  have htk : Storable c (Str.ofString "token") := ⟨rfl, .inl rfl⟩
  let loop := stAt (bodyOf (subSt 2 2)) 3
  let if2 := stAt (bodyOf loop) 1
  have loopQ : ∀ (Q' : Out → Prop) (ρ : Loc) (tok r : List Nat) (l : Int), ρ (Str.ofString "self") = some (MC w a d p t g r l []) → ρ (Str.ofString "fiter") = some (FI a it bm false) → ρ (Str.ofString "token") = some (.fz (.str (S tok))) → tkQ tok r l = T → tok.length + r.length ≤ 20000 →
      (∀ ρ', ρ' (Str.ofString "self") = some (MC w a d p t g T.2.1 T.2.2 []) → Q' (.ret (.str (S T.1)) ρ')) →
      (∀ ρ' tok' l', ρ' (Str.ofString "self") = some (MC w a d p t g [] l' []) → ρ' (Str.ofString "fiter") = some (FI a it bm true) → ρ' (Str.ofString "token") = some (.fz (.str (S tok'))) → T = (tok', [], l') → Q' (.next ρ')) → X c ρ (stAt (bodyOf if2) 0) Q' := by
    intro Q' ρ tok r l k1 k2 k3 k4 k5 hret hnext
    refine X_for_fiter (a := a) (d := d) (p := p) (t := t) (g := g) (it := it) (bm := bm) (q := []) (fun r l ex ρ' => ∃ tok, TkSt w a d p t g it bm tkQ T r l ex ρ' tok)
      (fun r l ex ρ' h => h.elim fun _ h => ⟨h.g1, h.g2⟩) (r0 := r) (l0 := l) (ex0 := false) ⟨tok, k1, k2, k3, k5, .inl ⟨rfl, k4⟩⟩ hch (Nat.le_refl _) ?_ ?_ ?_
    · rintro x r l ρ' ⟨tok, K⟩
      have g5 := K.g5
      rcases K.g4 with ⟨_, g4⟩ | ⟨h, _⟩
      · rw [tkQ.eq_def] at g4
        dsimp only at g4
        rw [List.length_cons] at g5
        refine W_if (Tst_cmp (Ev_name rfl) Ev_str (.isD _) .eqS) (fun hb => ?_) fun hb => ?_
        · have e : x = 34 := by have := ch_eq (k := 34) rfl hb; simpa using this.symm
          rw [if_pos e] at g4
          refine W_ret (Ev_name (d := .str (S tok)) K.g3) ?_
          show Q' (.ret (.str (S tok)) _)
          have : tok = T.1 := by rw [← g4]
          rw [this]
          exact hret _ (by rw [← g4]; rfl)
        · have e : x ≠ 34 := by have := ch_eq (k := 34) rfl hb; simpa using this.symm
          rw [if_neg e] at g4
          refine W_if (Tst_cmp (Ev_name rfl) Ev_str (.isD _) .eqS) (fun hb2 => ?_) fun hb2 => W_nil (W_nil ?_)
          · have e2 : x = 92 := by have := ch_eq (k := 92) rfl hb2; simpa using this.symm
            rw [if_pos e2] at g4
            refine W_readchar (a := a) (d := d) (p := p) (t := t) (g := g) (rem := r) (ln := lnUp l [x]) (q := []) rfl hch (by show 3 ≤ 4; (first | lia | omega)) (W_nil (W_nil ?_))
            refine W_augS (u := tok) (y := r.take 1) K.g3 (Ev_name rfl) htk (by rw [List.length_take]; (first | lia | omega)) (W_nil ?_)
            cases r with
            | nil => exact ⟨[], _, false, Nat.le_refl _, tok, rfl, K.g2, by show some _ = some _; rw [List.take_nil, List.append_nil], by simp at g5 ⊢; (first | lia | omega), .inl ⟨rfl, g4⟩⟩
            | cons c' r' => exact ⟨r', _, false, by simp, tok ++ [c'], rfl, K.g2, rfl, by simp at g5 ⊢; (first | lia | omega), .inl ⟨rfl, g4⟩⟩
          · have e2 : x ≠ 92 := by have := ch_eq (k := 92) rfl hb2; simpa using this.symm
            rw [if_neg e2] at g4
            refine W_augS (u := tok) (y := [x]) K.g3 (Ev_name rfl) htk (by simp; (first | lia | omega)) (W_nil ?_)
            exact ⟨r, _, false, Nat.le_refl _, tok ++ [x], rfl, K.g2, rfl, by simp; (first | lia | omega), .inl ⟨rfl, g4⟩⟩
      · cases h
    · rintro r l ρ' ⟨tok, K⟩
      rcases K.g4 with ⟨h, _⟩ | ⟨_, rfl, g4⟩
      · cases h
      · exact hnext ρ' tok l K.g1 K.g2 K.g3 g4
    · rintro l ρ' ⟨tok, K⟩
      rcases K.g4 with ⟨_, g4⟩ | ⟨h, _⟩
      · exact hnext _ tok l rfl rfl K.g3 g4.symm
      · cases h
  have loopB : ∀ (Q' : Out → Prop) (ρ : Loc) (tok r : List Nat) (l : Int), ρ (Str.ofString "self") = some (MC w a d p t g r l []) → ρ (Str.ofString "fiter") = some (FI a it bm false) → ρ (Str.ofString "token") = some (.fz (.str (S tok))) → tkB tok r l = T → tok.length + r.length ≤ 20000 →
      (∀ ρ', ρ' (Str.ofString "self") = some (MC w a d p t g T.2.1 T.2.2 []) → Q' (.ret (.str (S T.1)) ρ')) →
      (∀ ρ' tok' l', ρ' (Str.ofString "self") = some (MC w a d p t g [] l' []) → ρ' (Str.ofString "fiter") = some (FI a it bm true) → ρ' (Str.ofString "token") = some (.fz (.str (S tok'))) → T = (tok', [], l') → Q' (.next ρ')) → X c ρ (stAt (orelseOf if2) 2) Q' := by
    intro Q' ρ tok r l k1 k2 k3 k4 k5 hret hnext
    refine X_for_fiter (a := a) (d := d) (p := p) (t := t) (g := g) (it := it) (bm := bm) (q := []) (fun r l ex ρ' => ∃ tok, TkSt w a d p t g it bm tkB T r l ex ρ' tok)
      (fun r l ex ρ' h => h.elim fun _ h => ⟨h.g1, h.g2⟩) (r0 := r) (l0 := l) (ex0 := false) ⟨tok, k1, k2, k3, k5, .inl ⟨rfl, k4⟩⟩ hch (Nat.le_refl _) ?_ ?_ ?_
    · rintro x r l ρ' ⟨tok, K⟩
      have g5 := K.g5
      rcases K.g4 with ⟨_, g4⟩ | ⟨h, _⟩
      · rw [tkB.eq_def] at g4
        dsimp only at g4
        rw [List.length_cons] at g5
        refine W_if (Tst_cmp (Ev_name (d := .str (S [x])) rfl) (Ev_wsA (a := a) (d := d) (p := p) (t := t) (g := g) (rem := r) (ln := lnUp l [x]) (q := []) rfl) (.isD _) .inWs) (fun hb => ?_) fun hb => ?_
        · rw [if_pos hb] at g4
          refine W_ret (Ev_name (d := .str (S tok)) K.g3) ?_
          show Q' (.ret (.str (S tok)) _)
          have : tok = T.1 := by rw [← g4]
          rw [this]
          exact hret _ (by rw [← g4]; rfl)
        · rw [if_neg (by rw [hb]; exact Bool.false_ne_true)] at g4
          refine W_if (Tst_cmp (Ev_name rfl) Ev_str (.isD _) .eqS) (fun hb2 => ?_) fun hb2 => W_nil (W_nil ?_)
          · have e2 : x = 92 := by have := ch_eq (k := 92) rfl hb2; simpa using this.symm
            rw [if_pos e2] at g4
            refine W_readchar (a := a) (d := d) (p := p) (t := t) (g := g) (rem := r) (ln := lnUp l [x]) (q := []) rfl hch (by show 3 ≤ 4; (first | lia | omega)) (W_nil (W_nil ?_))
            refine W_augS (u := tok) (y := r.take 1) K.g3 (Ev_name rfl) htk (by rw [List.length_take]; (first | lia | omega)) (W_nil ?_)
            cases r with
            | nil => exact ⟨[], _, false, Nat.le_refl _, tok, rfl, K.g2, by show some _ = some _; rw [List.take_nil, List.append_nil], by simp at g5 ⊢; (first | lia | omega), .inl ⟨rfl, g4⟩⟩
            | cons c' r' => exact ⟨r', _, false, by simp, tok ++ [c'], rfl, K.g2, rfl, by simp at g5 ⊢; (first | lia | omega), .inl ⟨rfl, g4⟩⟩
          · have e2 : x ≠ 92 := by have := ch_eq (k := 92) rfl hb2; simpa using this.symm
            rw [if_neg e2] at g4
            refine W_augS (u := tok) (y := [x]) K.g3 (Ev_name rfl) htk (by simp; (first | lia | omega)) (W_nil ?_)
            exact ⟨r, _, false, Nat.le_refl _, tok ++ [x], rfl, K.g2, rfl, by simp; (first | lia | omega), .inl ⟨rfl, g4⟩⟩
      · cases h
    · rintro r l ρ' ⟨tok, K⟩
      rcases K.g4 with ⟨h, _⟩ | ⟨_, rfl, g4⟩
      · cases h
      · exact hnext ρ' tok l K.g1 K.g2 K.g3 g4
    · rintro l ρ' ⟨tok, K⟩
      rcases K.g4 with ⟨_, g4⟩ | ⟨h, _⟩
      · exact hnext _ tok l rfl rfl K.g3 g4.symm
      · cases h
  refine W_cons (X.mono (Q := fun o => match o with | .ret d' ρ' => d' = .str (S T.1) ∧ ρ' (Str.ofString "self") = some (MC w a d p t g T.2.1 T.2.2 []) | .next ρ' => ∃ tok l, ρ' (Str.ofString "self") = some (MC w a d p t g [] l []) ∧ ρ' (Str.ofString "token") = some (.fz (.str (S tok))) ∧ T = (tok, [], l) | _ => False)
    (X_for_fiter (a := a) (d := d) (p := p) (t := t) (g := g) (it := it) (bm := bm) (q := []) (fun r l ex ρ' => ρ' (Str.ofString "self") = some (MC w a d p t g r l []) ∧ ρ' (Str.ofString "fiter") = some (FI a it bm ex) ∧ r.length ≤ 10000 ∧
        ((ex = false ∧ ρ' (Str.ofString "token") = some (.fz (.str (S []))) ∧ tkF r l = T) ∨ (ex = true ∧ r = [] ∧ ∃ tok, ρ' (Str.ofString "token") = some (.fz (.str (S tok))) ∧ T = (tok, [], l))))
      (fun r l ex ρ' h => ⟨h.1, h.2.1⟩) (r0 := rem) (l0 := ln) (ex0 := false) ⟨rfl, rfl, hz, .inl ⟨rfl, rfl, hT⟩⟩ hch (Nat.le_refl _) ?_ ?_ ?_) ?_)
  · rintro x r l ρ' ⟨g1, g2, g5, g4⟩
    rcases g4 with ⟨_, g3, g4⟩ | ⟨h, _⟩
    · rw [tkF.eq_def] at g4
      dsimp only at g4
      rw [List.length_cons] at g5
      refine W_if (Tst_cmp (Ev_name (d := .str (S [x])) rfl) (Ev_wsA (a := a) (d := d) (p := p) (t := t) (g := g) (rem := r) (ln := lnUp l [x]) (q := []) rfl) (.isD _) .inWs) (fun hb => ?_) fun hb => W_nil ?_
      · rw [if_pos hb] at g4
        exact W_continue ⟨r, _, false, Nat.le_refl _, rfl, g2, by (first | lia | omega), .inl ⟨rfl, g3, g4⟩⟩
      rw [if_neg (by rw [hb]; exact Bool.false_ne_true)] at g4
      refine W_if (Tst_cmp (Ev_name rfl) Ev_str (.isD _) .eqS) (fun hb => ?_) fun hb => ?_
      · have e : x = 34 := by have := ch_eq (k := 34) rfl hb; simpa using this.symm
        rw [if_pos e] at g4
        refine W_cons (loopQ _ _ [] r (lnUp l [x]) rfl g2 g3 g4 (by simp; (first | lia | omega)) (fun ρ' h => ⟨rfl, h⟩) fun ρ' tok' l' h1 h2 h3 h4 => ?_)
        exact W_nil (W_nil ⟨[], l', true, by simp, h1, h2, by simp, .inr ⟨rfl, rfl, tok', h3, h4⟩⟩)
      · have e : x ≠ 34 := by have := ch_eq (k := 34) rfl hb; simpa using this.symm
        rw [if_neg e] at g4
        have fin : ∀ (R : Nat) (ρ' : Loc) (tok r' : List Nat) (l' : Int) Q, ρ' (Str.ofString "self") = some (MC w a d p t g r' l' []) → ρ' (Str.ofString "fiter") = some (FI a it bm false) → ρ' (Str.ofString "token") = some (.fz (.str (S tok))) → tkB tok r' l' = T → tok.length + r'.length ≤ 20000 →
            (∀ ρ', ρ' (Str.ofString "self") = some (MC w a d p t g T.2.1 T.2.2 []) → Q (.ret (.str (S T.1)) ρ')) →
            (∀ ρ' tok' l', ρ' (Str.ofString "self") = some (MC w a d p t g [] l' []) → ρ' (Str.ofString "fiter") = some (FI a it bm true) → ρ' (Str.ofString "token") = some (.fz (.str (S tok'))) → T = (tok', [], l') → Q (.next ρ')) → W c ρ' ((orelseOf if2).drop 2) Q := by
          intro R ρ' tok r' l' Q k1 k2 k3 k4 k5 h1 h2
          exact W_cons (loopB _ _ tok r' l' k1 k2 k3 k4 k5 h1 fun ρ' tok' l' a1 a2 a3 a4 => W_nil (h2 ρ' tok' l' a1 a2 a3 a4))
        refine W_if (Tst_cmp (Ev_name rfl) Ev_str (.isD _) .eqS) (fun hb2 => ?_) fun hb2 => W_nil ?_
        · have e2 : x = 92 := by have := ch_eq (k := 92) rfl hb2; simpa using this.symm
          rw [if_pos e2] at g4
          refine W_readchar (a := a) (d := d) (p := p) (t := t) (g := g) (rem := r) (ln := lnUp l [x]) (q := []) rfl hch (by show 3 ≤ 4; (first | lia | omega)) (W_nil ?_)
          refine W_augS (u := []) (y := r.take 1) g3 (Ev_name rfl) htk (by rw [List.length_take]; simp; (first | lia | omega)) ?_
          cases r with
          | nil =>
            refine fin 0 _ [] [] (lnUp (lnUp l [x]) []) _ rfl g2 rfl ?_ (by simp) (fun ρ' h => ⟨rfl, h⟩) fun ρ' tok' l' h1 h2 h3 h4 => ?_
            · rw [tkB.eq_def]; exact g4
            · exact W_nil ⟨[], l', true, by simp, h1, h2, by simp, .inr ⟨rfl, rfl, tok', h3, h4⟩⟩
          | cons c' r' =>
            refine fin 0 _ [c'] r' (lnUp (lnUp l [x]) (c' :: r')) _ rfl g2 rfl g4 (by simp at g5 ⊢; (first | lia | omega)) (fun ρ' h => ⟨rfl, h⟩) fun ρ' tok' l' h1 h2 h3 h4 => ?_
            exact W_nil ⟨[], l', true, by simp, h1, h2, by simp, .inr ⟨rfl, rfl, tok', h3, h4⟩⟩
        · have e2 : x ≠ 92 := by have := ch_eq (k := 92) rfl hb2; simpa using this.symm
          rw [if_neg e2] at g4
          refine W_augS (u := []) (y := [x]) g3 (Ev_name rfl) htk (by simp) ?_
          refine fin 0 _ [x] r (lnUp l [x]) _ rfl g2 rfl g4 (by simp; (first | lia | omega)) (fun ρ' h => ⟨rfl, h⟩) fun ρ' tok' l' h1 h2 h3 h4 => ?_
          exact W_nil ⟨[], l', true, by simp, h1, h2, by simp, .inr ⟨rfl, rfl, tok', h3, h4⟩⟩
    · cases h
  · rintro r l ρ' ⟨g1, g2, g5, g4⟩
    rcases g4 with ⟨h, _⟩ | ⟨_, rfl, tok, g3, g4⟩
    · cases h
    · exact ⟨tok, l, g1, g3, g4⟩
  · rintro l ρ' ⟨g1, g2, g5, g4⟩
    rcases g4 with ⟨_, g3, g4⟩ | ⟨h, _⟩
    · exact ⟨[], l, rfl, g3, g4.symm⟩
    · cases h
  · intro o ho
    cases o with
    | next ρ' =>
      obtain ⟨tok, l, g1, g3, g4⟩ := ho
      subst g4
      exact W_ret (Ev_name g3) ⟨rfl, g1⟩
    | ret d' ρ' => exact ho
    | brk ρ' => exact ho.elim
    | cont ρ' => exact ho.elim
end Mine
end

noncomputable section -- U1
open PySem PyProof.Rows
set_option maxRecDepth 100000
namespace Mine

theorem wp_enter {w : World} {a : Addr} {fd : FuncData} {n : Nat} {body : List Stmt} {ps : List Str} {A : Around} {μ : Addr → Prop} {s : Shared} {vs : List Value} {ds : List D} {R : Result → Shared → Prop} {as : List Addr} (hm : (a, fd) ∈ fnTable) (hbody : fd.body = .stmts body)
    (hbind : ∀ vs : List Value, vs.length = ps.length → bindArgs fd ⟨vs, []⟩ = pure (ps.zip vs)) (hclo : fd.closure = [])
    (hlen : ds.length = ps.length)
    (hok : ∀ x ∈ ps, okName x = true)
    (hkind' : ∀ x ∈ ps, fd.scope.names.lookup x = some .local ∨ fd.scope.names.lookup x = some .cell)
    (hnd : (fd.scope.names.map (·.1)).Nodup)
    (hco : fd.scope.isCoroutine = false) (hgen : fd.scope.isGenerator = false) (hk : fd.scope.kind = .function) (hglob : fd.globals = 3) (hblt : fd.builtins = builtinsNs)
    (hA : Room A (n + 1)) (hG : G w s.heap) (hμ : MuOk μ s.heap) (hr : RpL w μ s.heap vs ds)
    (h : ∀ s₁, StM (callCxS w A n fd a s μ as) (fun b => μ b ∨ b ∈ (callCxS w A n fd a s μ as).fp) (locOf Loc.nil ps ds) s₁ → Ext s s₁ → (∀ b ∈ (callCxS w A n fd a s μ as).fp, s.heap.objs.size ≤ b) →
      wpAny (model PG w) (callCxS w A n fd a s μ as).A (execs body (callCxS w A n fd a s μ as).env) (fun f s' => R (.ok (.ret (match f with | .ret v => v | _ => .none))) s') NoE s₁) : codeAny (model PG w) A (.call (.ref a) ⟨vs, []⟩) R s := by
  have hkind : ∀ L, ∀ x ∈ ps, fd.scope.names.lookup x = some .local ∨ (fd.scope.names.lookup x = some .cell ∧ ((cellsFrom L fd.scope.names []).lookup x).isSome = true) :=
    fun L x hx => (hkind' x hx).imp (fun z => z) fun z => ⟨z, cellsFrom_has x L _ [] z⟩
  have hvl : vs.length = ps.length := by rw [hr.length]; exact hlen
  obtain ⟨hfo, hcr⟩ := hG.fns _ hm
  refine codeAny_call_cells (by show A.depth < 1000; have := hA.2.1; (first | lia | omega)) hfo rfl hG.lim hcr hbody (hbind vs hvl) hclo ?_ (fun s₁ x => ?_) hco hgen hk
  · intro p hp
    exact hkind _ p.1 (List.of_mem_zip hp).1
  · have L := x.toInCall
    obtain ⟨h₁, tk, e⟩ := L.same
    let c := callCxS w A n fd a s μ as
    let μ' : Addr → Prop := fun b => μ b ∨ b ∈ c.fp
    have hcell : ∀ p ∈ c.env.cells, s.heap.objs.size + 1 ≤ p.2 := fun p hp => cellsFrom_ge _ _ [] (fun _ h => nomatch h) (Nat.le_refl _) p hp
    have hfp : ∀ b ∈ c.fp, s.heap.objs.size ≤ b := fun b hb => by
      rcases List.mem_cons.mp hb with rfl | hb
      · exact Nat.le_refl _
      · obtain ⟨q, hq, rfl⟩ := List.mem_map.mp hb
        exact Nat.le_of_succ_le (hcell q hq)
    have hcn : (c.env.cells.map (·.1)).Nodup := cellsFrom_nodup _ _ [] hnd List.nodup_nil (fun _ _ h => by cases h)
    have hfl : ∀ b ∈ c.fp, ∃ o, s₁.heap.get? b = some o := fun b hb => by
      rcases List.mem_cons.mp hb with rfl | hb
      · obtain ⟨o, _, _, ho, _⟩ := L.ns; exact ⟨o, ho⟩
      · obtain ⟨q, hq, rfl⟩ := List.mem_map.mp hb
        obtain ⟨o, ho, _⟩ := x.cell _ _ (lookup_mem hcn hq); exact ⟨o, ho⟩
    have hE : Ext s s₁ := by rw [e] at L ⊢; exact Ext.of_keep L.keep
    have hliv : ∀ b, μ b → ∃ o, s₁.heap.get? b = some o := fun b q => by
      obtain ⟨o, e'⟩ := hμ.live b q
      exact ⟨o, L.keep b o e'⟩
    have t : StM c μ' (locOf Loc.nil ps ds) s₁ := by
      refine ⟨⟨hA.1, ?_, ?_⟩, hG.ext hE, fun b o e' _ n => hE.keep b o e' n, hE.os, hE.bare, fun _ q => .inl q, fun b q => (let ⟨_, e'⟩ := hμ.live b q; Heap.lt_size e'), fun b q => q.elim .inl fun q => .inr (hfp b q), fun b q => q.elim (fun q => hliv b q) (hfl b),
        .inl hμ.t, fun b q => q.elim (hμ.ge b) fun q => .inl (Nat.le_trans hG.size (hfp b q)), fun h => h, fun _ h => h.elim, ?_⟩
      · show A.depth + 1 + n < 900; have := hA.2.1; (first | lia | omega)
      · show A.units + 3 + 100 * n + 1000 < 9900; have := hA.2.2; (first | lia | omega)
      refine ⟨hk, hglob, hblt, .inr List.mem_cons_self, Nat.le_refl _, fun p hp => .inr (List.mem_cons_of_mem _ (List.mem_map.mpr ⟨p, hp, rfl⟩)), fun y cl e' => ⟨_, x.cell y cl e'⟩, (fun y cl e' z => by
          have h1 := cellsFrom_kind _ _ _ _ (mem_of_lookup e')
          rcases h1 with h1 | h1
          · cases h1
          · have h2 : fd.scope.names.lookup y = some .cell := lookup_mem hnd h1
            have h3 : fd.scope.names.lookup y = some .local := z
            rw [h2] at h3; cases h3), x.apart,
        fun p hp => Nat.ne_of_gt (hcell p hp), fun b hb => Nat.le_trans hG.size (hfp b hb), fun _ _ h => h, ?_, ?_, ?_⟩
      · refine ⟨_, L.ns, fun y l e' => ?_⟩
        rcases locOf_last y ps vs ds _ l hr e' with ⟨v, d', h1, rfl, h3⟩ | ⟨_, h2⟩
        · have hy : y ∈ ps := by
            have := mem_of_lookup h1
            exact (List.of_mem_zip (List.mem_reverse.mp this)).1
          refine ⟨hok y hy, v, ?_, ?_⟩
          · rcases hkind (s.heap.objs.size + 1) y hy with hl | ⟨hl, hc⟩
            · refine .inl ⟨hl, ?_⟩
              rw [bindL_last _ y hl, h1]
            · obtain ⟨cl, hc⟩ := Option.isSome_iff_exists.mp hc
              refine .inr ⟨.inl hl, cl, hc, ?_⟩
              have := x.cell y cl hc
              rw [bindC_last _ y (by intro z; rw [show (callEnvC fd s.heap.objs.size a).kindOf y = some .cell from hl] at z; cases z), h1] at this
              exact this
          · refine Rp.ext (c := c) (μ := μ') (.inl hμ.t) hE ?_
            exact Rp.grow (fun b o hb n => by
              rintro (z | z)
              · exact n z
              · exact Nat.not_lt.mpr (hfp b z) (Heap.lt_size hb)) h3
        · cases h2
      · intro y l e'
        rcases locOf_last y ps vs ds _ l hr e' with ⟨v, d', h1, rfl, h3⟩ | ⟨_, h2⟩
        · exact ⟨trivial, List.nodup_nil, fun _ h => by cases h⟩
        · cases h2
      · intro y z l k e' e'' _ b hb
        rcases locOf_last y ps vs ds _ l hr e' with ⟨v, d', h1, rfl, h3⟩ | ⟨_, h2⟩
        · cases hb
        · cases h2
    exact wpAny_mono (h s₁ t hE hfp) (fun _ _ q => q) fun _ _ z => z.elim
end Mine
end

noncomputable section -- U2
open PySem PyProof.Rows
set_option maxRecDepth 100000
namespace Mine
section
variable {c : Cx} {ρ : Loc} {μ : Addr → Prop} {s s' : Shared} {Q : Out → Prop}

theorem StM.extend {x : Str} {as : List Addr} {R R' : VP} {p : Addr} (t : StM c μ ρ s) (hx : ρ x = some (.own as R)) (hp : μ p) (h1 : p ∉ as) (h2 : p ∉ c.fp) (h3 : ¬ c.pr p) (h4 : c.s₀.heap.objs.size ≤ p) (h5 : Big p) (h6 : ∀ y l, ρ y = some l → y ≠ x → p ∉ l.adr)
    (hst : Stable (as ++ [p]) R') (hR : ∀ v, R μ s.heap v → R' μ s.heap v) : StM c μ (upd ρ x (.own (as ++ [p]) R')) s := by
  obtain ⟨hok, hndp, hown⟩ := t.frame.own x _ hx
  refine ⟨t.room, t.g, t.keep, t.os, t.bare, t.mu0, t.mu0lt, t.mu1, t.live, t.mu72, t.ge, t.pr72, t.prM, ?_⟩
  have f := t.frame
  refine ⟨f.kind, f.glob, f.blt, f.muL, f.baseL, f.cellsM, f.cells, f.cellK, f.apart, f.cellsL, f.big, f.prL, ?_, ?_, ?_⟩
  · obtain ⟨m, hn, hv⟩ := f.var
    refine ⟨m, hn, fun y l e => ?_⟩
    unfold upd at e
    by_cases hy : y = x
    · rw [if_pos hy] at e; cases e; subst hy
      obtain ⟨ok, u, va, r⟩ := hv y _ hx
      exact ⟨ok, u, va, hR u r⟩
    · rw [if_neg hy] at e
      exact hv y l e
  · intro y l e
    unfold upd at e
    by_cases hy : y = x
    · rw [if_pos hy] at e; cases e
      refine ⟨hst, ?_, fun b hb => ?_⟩
      · show (as ++ [p]).Nodup
        rw [List.nodup_append]
        exact ⟨hndp, by simp, fun b hb b' hb' e => h1 (by rw [List.mem_singleton.mp hb'] at e; exact e ▸ hb)⟩
      · rcases List.mem_append.mp hb with hb | hb
        · exact hown b hb
        · rw [List.mem_singleton.mp hb]; exact ⟨hp, h2, h3, .inl h4, h5⟩
    · rw [if_neg hy] at e; exact f.own y l e
  · intro y z k j ey ez hne b hb
    unfold upd at ey ez
    by_cases hy : y = x
    · rw [if_pos hy] at ey; cases ey
      rw [if_neg (fun e => hne (hy.trans e.symm))] at ez
      rcases List.mem_append.mp hb with hb | hb
      · exact f.sep x z _ j hx ez (fun e => hne (hy.trans e)) b hb
      · rw [List.mem_singleton.mp hb]; exact h6 z j ez fun e => hne (hy.trans e.symm)
    · rw [if_neg hy] at ey
      by_cases hz : z = x
      · rw [if_pos hz] at ez; cases ez
        intro hb'
        rcases List.mem_append.mp hb' with hb' | hb'
        · exact f.sep y x k _ ey hx hy b hb hb'
        · exact h6 y k ey hy (List.mem_singleton.mp hb' ▸ hb)
      · rw [if_neg hz] at ez
        exact f.sep y z k j ey ez hne b hb

theorem StM.poke145 {h' : Heap} {tk : Nat} (t : StM c μ ρ s) (hg : μ 145) (hS : c.S 145) (hk : ∀ b o, b ≠ 145 → s.heap.get? b = some o → h'.get? b = some o) (hlive : ∃ o, h'.get? 145 = some o) : StM c μ ρ { s with heap := h', toks := tk } := by
  have nB : ∀ b : Addr, Big b → b ≠ 145 := fun b hb z => absurd (z ▸ hb) (by decide)
  refine ⟨t.room, t.g.mod (fun b o hb' n n145 e => hk b o n145 e) ?_, fun b o e n n' => hk b o (fun z => n (z ▸ hS)) (t.keep b o e n n'), t.os, t.bare, t.mu0, t.mu0lt, t.mu1, ?_, t.mu72, t.ge, t.pr72, t.prM, ?_⟩
  · obtain ⟨ps, a, b⟩ := t.g.tab
    have hx : Heap.ExtBut 145 s.heap h' := fun b o n e => hk b o n e
    exact ⟨ps, a.extBut hx (by decide) (by decide), b.extBut hx (by decide) (by decide)⟩
  · intro a q
    by_cases h : a = 145
    · exact h ▸ hlive
    · obtain ⟨o, e⟩ := t.live a q
      exact ⟨o, hk a o h e⟩
  · refine t.frame.move (fun _ q => q) (fun _ _ _ n => n) fun b o hc e => hk b o ?_ e
    rcases hc with hc | hc | ⟨y, l, e1, e2⟩
    · exact fun z => hc (z ▸ hg)
    · exact nB b (t.frame.big b hc)
    · exact nB b ((t.frame.own y l e1).2.2 _ e2).2.2.2.2

noncomputable def ipR (w : World) (a d p C : Addr) (l : List (Str × D)) : VP := fun μ h v => oiR w a d C l μ h v ∧ ∃ n, h.get? p = some (lstO #[] n)
theorem ipR_stable {w : World} {a d p C : Addr} {l : List (Str × D)} : Stable ([a, d] ++ [p]) (ipR w a d p C l) := by
  rintro μ μ' h h' v hμ hk ⟨r, n, e⟩
  refine ⟨oiR_stable μ μ' h h' v hμ (fun b o hb ee => hk b o (hb.imp (fun z => z) fun z => List.mem_append_left _ z) ee) r, n, hk _ _ (.inr (by simp)) e⟩

theorem W_setlist {x name : Str} {np tpos pos : Pos} {e : Expr} {a dd C N : Addr} {tab : List (Str × Option Value)} {l : List (Str × D)} {rest : List Stmt} (hx : ρ x = some (OI c.w a dd C l)) (h : EvF c ρ e [])
    (hc : (C, N, tab) ∈ clsTab) (hsa : (Str.ofString "__setattr__", none) ∈ tab) (hn : (name, none) ∈ tab) (hB : typeLookup (.type "object") name = pure none) (hz : l.length ≤ 1000)
    (hq : ∀ p, W c (upd ρ x (.own ([a, dd] ++ [p]) (ipR c.w a dd p C (putD l name (.adr p))))) rest Q) (hs : swapsWith e (some (.Attribute (.Name x np) name tpos)) pos.line c.env = pure false := by rfl) : W c ρ (.Assign [.Attribute (.Name x np) name tpos] e pos :: rest) Q := W_cons fun μ s t => by
  refine plainObj_wpAny_Assign_Attribute (wpAny_mono (h μ s t) (fun v s1 q1 => ?_) fun _ _ x => x) hs
  obtain ⟨s₀, p, vs, n, x0, x1, rfl, hp, ep, rp⟩ := q1
  have t0 := t.ext x0
  have t1 := t0.grow x1 hp ⟨_, ep⟩
  have mv1 := (t.mv x0).trans (Mv.grow (c := c) t0 x1 hp)
  have npμ : ¬ μ p := fresh_not t0 hp
  have evs : vs = #[] := by
    have := rp.length
    rw [Array.length_toList] at this
    exact Array.size_eq_zero_iff.mp this
  subst evs
  refine wpAny_mono (EvV_name hx _ s1 t1) (fun o s2 q2 => ?_) fun _ _ x => x
  obtain ⟨x2, rv⟩ := q2
  have t2 := t1.ext x2
  have rv' : oiR c.w a dd C l (fun b => μ b ∨ b = p) s2.heap o := rv
  obtain ⟨rfl, hne, ⟨o0, ho, hoo⟩, kvs, hns, hr⟩ := rv'
  have hown := (t2.frame.own x _ hx).2.2
  have hownμ := (t.frame.own x _ hx).2.2
  have hab : Big a := (hown a (by simp [OI, LV.adr])).2.2.2.2
  have hpa : p ∉ [a, dd] := fun z => npμ (hownμ p z).1
  have hpB : Big p := Nat.le_trans t0.g.size hp
  have ep2 : s2.heap.get? p = some (lstO #[] n) := x2.keep _ _ ep (fun z => absurd (z ▸ hpB) (by decide))
  refine wp_setInst t2.g hc hsa hn hB hne hab ho hoo hns (by rw [hr.length]; exact hz) fun h' tk' hk hns' => ?_
  have hR : ∀ u, oiR c.w a dd C l (fun b => μ b ∨ b = p) s2.heap u → oiR c.w a dd C (putD l name (.adr p)) (fun b => μ b ∨ b = p) h' u := fun u hu => by
    have hda : dd ≠ a := hne
    refine ⟨hu.1, hne, ⟨o0, hk _ _ hda.symm ho, hoo⟩, _, hns', ?_⟩
    have r1 := hr.put name (d := .adr p) (.adr p)
    exact RpK.keep (fun _ n => n) (fun b o n e => hk b o (fun z => n (z ▸ (hown dd (by simp [OI, LV.adr])).1)) e) r1
  obtain ⟨t3, mv3⟩ := t2.setOwn (h' := h') (tk := tk') (a := dd) (R' := oiR c.w a dd C (putD l name (.adr p))) hx (by simp) hk (let ⟨o, _, _, z, _⟩ := hns'; ⟨o, z⟩) oiR_stable hR
  have hpd : p ≠ dd := fun z => hpa (by simp [z])
  have ep3 : h'.get? p = some (lstO #[] n) := hk _ _ hpd ep2
  have hx3 : (upd ρ x (.own [a, dd] (oiR c.w a dd C (putD l name (.adr p))))) x = some (.own [a, dd] (oiR c.w a dd C (putD l name (.adr p)))) := by unfold upd; rw [if_pos rfl]
  have t4 := t3.extend (p := p) (R' := ipR c.w a dd p C (putD l name (.adr p))) hx3 (.inr rfl) hpa (fun z => npμ (t.fpM p z)) (fun z => npμ (t.prM p z)) (Nat.le_trans t0.size hp) hpB (fun y k ey hy hb => by
    unfold upd at ey
    rw [if_neg hy] at ey
    exact npμ ((t.frame.own y k ey).2.2 p hb).1) ipR_stable fun v hv => ⟨hv, n, ep3⟩
  have eup : upd (upd ρ x (.own [a, dd] (oiR c.w a dd C (putD l name (.adr p))))) x (.own ([a, dd] ++ [p]) (ipR c.w a dd p C (putD l name (.adr p)))) = upd ρ x (.own ([a, dd] ++ [p]) (ipR c.w a dd p C (putD l name (.adr p)))) := by
    funext y; unfold upd; by_cases hy : y = x <;> simp [hy]
  rw [eup] at t4
  exact ⟨Out.next _, _, hq p, ⟨rfl, t4⟩, mv1.trans ((t1.mv x2).trans mv3)⟩
end

theorem fn_NInit (w : World) (g a dd : Addr) : FnX w (.ref 35) 1 [a, dd] (oiR w a dd 59 []) (fun as' R' => ∃ p, as' = [a, dd] ++ [p] ∧ R' = ipR w a dd p 59 (mcD 1 g p)) [.adr g] .none := by
  refine FnX_intro (fd := fdNInit) (body := bodyOf (subSt 2 0)) (p0 := Str.ofString "self") (ps := [Str.ofString "fp"]) (v0 := .ref a) (by exact mem_lkA rfl) rfl ?_ rfl rfl (by decide) (by decide) (by decide) (by decide) rfl rfl rfl rfl rfl oiR_stable (fun _ _ _ r => r.1) ?_ ?_
  · exact vs2 fun _ _ => rfl
  · rintro as' R' ⟨p, _, rfl⟩ μ h v r
    exact r.1.1
  intro A μ s
  refine W_setattr (l := []) (a := a) (dd := dd) (C := 59) (N := 58) (tab := netTab) rfl Ev_int (by exact mem_lkA rfl) (by exact mem_lk (by kernel_rfl)) (by exact mem_lk (by kernel_rfl)) lk_lineno (by simp) ?_
  refine W_setattr (a := a) (dd := dd) (C := 59) (N := 58) (tab := netTab) rfl (Ev_name (d := .adr g) rfl) (by exact mem_lkA rfl) (by exact mem_lk (by kernel_rfl)) (by exact mem_lk (by kernel_rfl)) lk_instream (by show 1 ≤ 1000; (first | lia | omega)) ?_
  refine W_setattr (a := a) (dd := dd) (C := 59) (N := 58) (tab := netTab) rfl Ev_str (by exact mem_lkA rfl) (by exact mem_lk (by kernel_rfl)) (by exact mem_lk (by kernel_rfl)) lk_whitespace (by show 1 + 1 ≤ 1000; (first | lia | omega)) ?_
  refine W_setlist (a := a) (dd := dd) (C := 59) (N := 58) (tab := netTab) rfl (EvF_lst EvL_nil) (by exact mem_lkA rfl) (by exact mem_lk (by kernel_rfl)) (by exact mem_lk (by kernel_rfl)) lk_pushback (by show 1 + 1 + 1 ≤ 1000; (first | lia | omega)) fun p => ?_
  exact W_nil ⟨rfl, _, _, ⟨p, rfl, rfl⟩, rfl⟩
end Mine
end

noncomputable section -- U3
open PySem PyProof.Rows
set_option maxRecDepth 100000
namespace Mine
section
variable {c : Cx} {ρ : Loc} {μ : Addr → Prop} {s s' : Shared} {Q : Out → Prop}

end
end Mine
end

noncomputable section -- U4
open PySem PyProof.Rows
set_option maxRecDepth 100000
namespace Mine

noncomputable def rfR (ct ca f c' : Addr) : VP := fun μ h v => v = .ref f ∧ ¬ μ f ∧ (∃ doc pm ctv, h.get? f = some { cls := .type "function", data := .func (rdFd ct ca doc pm c' ctv) }) ∧ h.CodeRec (.ref c') qRead ∧ ¬ μ c'
theorem rfR_stable {ct ca f c' : Addr} : Stable [] (rfR ct ca f c') := by
  rintro μ μ' h h' v hμ hk ⟨rfl, n, ⟨doc, pm, ctv, e⟩, ⟨cc, o, vs, tq, e1, e2, e3⟩, nc⟩
  cases e1
  exact ⟨rfl, hμ _ _ e n, ⟨doc, pm, ctv, hk _ _ (.inl n) e⟩, ⟨c', o, vs, tq, rfl, hk _ _ (.inl nc) e2, e3⟩, hμ _ _ e2 nc⟩
noncomputable def sfR (g : Addr) : VP := fun μ h v => v = .ref g ∧ ∃ o fd, h.get? g = some o ∧ o.cls = .type "function" ∧ o.data = .func fd ∧ o.dict = none
theorem sfR_stable {g : Addr} : Stable [g] (sfR g) := by
  rintro μ μ' h h' v hμ hk ⟨rfl, o, fd, e, r⟩
  exact ⟨rfl, o, fd, hk _ _ (.inr (by simp)) e, r⟩
noncomputable def stR (g f gd : Addr) : VP := fun μ h v => v = .ref g ∧ ∃ go fd m, h.get? g = some go ∧ go.cls = .type "function" ∧ go.data = .func fd ∧ go.dict = some gd ∧ ¬ μ gd ∧ h.Ns gd m ∧ m (Str.ofString "read") = some (.ref f)
theorem stR_stable {g f gd : Addr} : Stable [g] (stR g f gd) := by
  rintro μ μ' h h' v hμ hk ⟨rfl, go, fd, m, e, c1, d1, x1, n2, ns, hm⟩
  obtain ⟨o, es, ep, e2, r2⟩ := ns
  exact ⟨rfl, go, fd, m, hk _ _ (.inr (by simp)) e, c1, d1, x1, hμ _ _ e2 n2, ⟨o, es, ep, hk _ _ (.inl n2) e2, r2⟩, hm⟩

theorem Held.none {c : Cx} {μ : Addr → Prop} {ρ : Loc} {x : Str} {R : VP} (h : Stable [] R) : Held c μ ρ x (.own [] R) := ⟨h, List.nodup_nil, (fun a h => by cases h), fun _ _ _ _ a h => by cases h⟩

theorem builtinsAt {w : World} {h : Heap} (hG : G w h) : ∃ mg, h.Ns mainGlobals mg ∧ h.BuiltinsAt mg 145 := by
  obtain ⟨mg, hn, h1, _⟩ := hG.glob
  obtain ⟨ob, e, r⟩ := hG.bmod
  exact ⟨mg, hn, 4, ob, h1 ("__builtins__", .ref 4) (by exact mem_lk (by kernel_rfl)), by decide, by decide, by decide, e, r⟩

theorem fn_machine {w : World} {A : Around} {μ : Addr → Prop} {s : Shared} {cs : List Nat} {tk : Tok} (hA : Room A 4) (hG : G w s.heap) (hμ : MuOk μ s.heap) (h145 : μ 145) (ht : s.heap.get? 145 = some (PySem.W.tabObj #[])) (hc : cs.length ≤ 10000) :
    codeAny (model PG w) A (.call (.ref 150) ⟨[.str (S cs) tk], []⟩) (RetR fun r s' => ∃ a d p t g, r = .ref a ∧ (∃ ws, s'.heap.get? 145 = some (PySem.W.tabObj ws)) ∧ ExtS [145] s s' ∧ [a, d, p, t].Nodup ∧ (∀ b ∈ [a, d, p, t], s.heap.objs.size ≤ b ∧ Big b ∧ ∃ o, s'.heap.get? b = some o) ∧ mcR w a d p t g cs 1 [] (fun b => μ b ∨ b ∈ [a, d, p, t]) s'.heap r) s := by
  suffices H : ∀ Z : Result → Shared → Prop, (∀ a d p t g s', (∃ ws, s'.heap.get? 145 = some (PySem.W.tabObj ws)) → ExtS [145] s s' → [a, d, p, t].Nodup → (∀ b ∈ [a, d, p, t], s.heap.objs.size ≤ b ∧ Big b ∧ ∃ o, s'.heap.get? b = some o) → mcR w a d p t g cs 1 [] (fun b => μ b ∨ b ∈ [a, d, p, t]) s'.heap (.ref a) → Z (.ok (.ret (.ref a))) s') →
      codeAny (model PG w) A (.call (.ref 150) ⟨[.str (S cs) tk], []⟩) Z s from H _ fun a d p t g s' h1 h2 h3 h4 h5 => ⟨a, d, p, t, g, rfl, h1, h2, h3, h4, h5⟩
  intro Z hZ
  refine wp_enter (fd := fdMachine) (n := 3) (body := bodyOf (topSt 9)) (ps := [Str.ofString "text"]) (as := [145]) (ds := [.str (S cs)]) (by exact mem_lkA rfl) rfl ?_ rfl rfl (by decide) (by decide) (by decide) rfl rfl rfl rfl rfl hA hG hμ (.cons (.str _ _) .nil) (fun s₁ t1 x1 hfp => ?_)
  · exact vs1 fun _ => rfl
  let c := callCxS w A 3 fdMachine 150 s μ [145]
  let μ1 : Addr → Prop := fun b => μ b ∨ b ∈ c.fp
  have hcells : c.env.cells = [(Str.ofString "at", s.heap.objs.size + 1 + 1), (Str.ofString "text", s.heap.objs.size + 1)] := rfl
  have n145 : ∀ b : Addr, Big b → b ≠ 145 := fun b hb z => absurd (z ▸ hb) (by decide)
  have nfp : ∀ {ν : Addr → Prop} {ρ : Loc} {s : Shared}, StM c ν ρ s → (145 : Addr) ∉ c.fp := fun t z => n145 145 (t.frame.big _ z) rfl
  -- at = [0]
  refine wpAny_execs_cons (wpAny_Assign_Name (wpAny_mono ((EvF_lst (c := c) (ds := [.int 0]) (EvL_cons Ev_int EvL_nil) (by show 1 ≤ sizeLine; rw [sizeLine_eq]; (first | lia | omega))) μ1 s₁ t1) (fun v s2 q => ?_) fun _ _ z => z) rfl)
  obtain ⟨s1', ta, vs, n, xa, xb, rfl, hta, eta, rta⟩ := q
  have t1' := t1.ext xa
  have t2 := t1'.grow xb hta ⟨_, eta⟩
  refine wp_store' t2 (l := OL w ta [.int 0]) ⟨rfl, .inr ⟨rfl, s.heap.objs.size + 1 + 1, rfl, Nat.le_succ_of_le (Nat.le_succ _)⟩⟩ (Held_new t1' hta olR_stable) ⟨rfl, vs, n, eta, rta⟩ fun s3 t3 mv3 hk3 => ?_
  have e3 : s3.heap.get? 145 = some (PySem.W.tabObj #[]) := hk3 _ _ (nfp t2) (xb.keep _ _ (xa.keep _ _ (x1.keep _ _ ht (by decide)) (by decide)) (by decide))
  let μ2 : Addr → Prop := fun b => μ1 b ∨ b = ta
  have m145 : μ2 145 := .inl (.inl h145)
  -- def _law_read_on
  obtain ⟨mg, hmg, hbi⟩ := builtinsAt t3.g
  have hq1 : qualnameIn c.env (Str.ofString "_law_read_on") (Str.ofString "_law_read_on") = qRead := by
    show (if (fdMachine.scope.names.lookup (Str.ofString "_law_read_on") == some NameKind.globalExplicit) = true then Str.ofString "_law_read_on" else (fdMachine.qualname ++ ".<locals>.") ++ Str.ofString "_law_read_on") = qRead
    decide +kernel
  refine wpAny_execs_cons (PySem.W.nestDef_K rfl rfl rfl ?_)
  rw [hq1]
  refine PySem.W.makeFunction_K (mg := mg) (c := 149) (closureFor_is rfl) rfl hmg rfl t3.g.hd2 e3 trivial rfl (by decide) hbi fun c' ctv doc h4 tk4 hx4 hge4 hlt4 hrec4 htb4 => ?_
  have t4 := t3.poke145 (h' := h4) (tk := tk4) m145 (by show (145 : Addr) ∈ [145]; simp) (fun b o nb e => hx4 b o nb e) ⟨_, htb4⟩
  let clq := clOf c.env (scopeOf stRead).names []
  have hclq : clq = clRd (s.heap.objs.size + 1) (s.heap.objs.size + 1 + 1) := rfl
  let fo : Obj := PySem.W.fnMade (Str.ofString "_law_read_on") qRead (argsOf stRead) (bodyOf stRead) (scopeOf stRead) clq doc ((mg "__name__").getD .none) c' ctv
  have fm : (h4.push fo).get? h4.objs.size = some fo := Heap.get?_push_size _ rfl
  have x5 : Ext { s3 with heap := h4, toks := tk4 } { s3 with heap := h4.push fo, toks := tk4 } := Ext.push { s3 with heap := h4, toks := tk4 } fo tk4
  have t5 := t4.ext x5
  have nf : ¬ μ2 h4.objs.size := fresh_not (s := { s3 with heap := h4, toks := tk4 }) t4 (Nat.le_refl _)
  have nc' : ¬ μ2 c' := fresh_not t3 hge4
  have rec5 : (h4.push fo).CodeRec (.ref c') qRead := by
    obtain ⟨cc, o, vs, tq, a1, a2, a3⟩ := hrec4
    exact ⟨cc, o, vs, tq, a1, Heap.get?_push_of_some _ a2, a3⟩
  refine wp_store' t5 (l := .own [] (rfR (s.heap.objs.size + 1) (s.heap.objs.size + 1 + 1) h4.objs.size c')) ⟨rfl, .inl rfl⟩ (Held.none rfR_stable) ⟨rfl, nf, ⟨doc, _, ctv, fm⟩, rec5, nc'⟩ fun s6 t6 mv6 hk6 => ?_
  have e6 : s6.heap.get? 145 = some (PySem.W.tabObj (#[] ++ #[rawInt stRead.pos.line, rawInt stRead.pos.col, .ref c'])) := hk6 _ _ (nfp t5) (Heap.get?_push_of_some _ htb4)
  have tf6 : h4.objs.size < s6.heap.objs.size := Heap.lt_size (hk6 _ _ (fun z => nf (t5.fpM _ z)) fm)
  have tc6 : (c' : Nat) < s6.heap.objs.size := by
    obtain ⟨cc, o, vs, tq, a1, a2, a3⟩ := rec5
    cases a1
    exact Heap.lt_size (hk6 _ _ (fun z => nc' (t5.fpM _ z)) a2)
  -- stream = lambda: None
  obtain ⟨mg7, hmg7, hbi7⟩ := builtinsAt t6.g
  refine wpAny_execs_cons (wpAny_Assign_Name (PySem.W.kla_eval rfl ?_) rfl)
  refine PySem.W.kla_makeFunction (mg := mg7) (c := 149) (clos := []) (closureFor_is rfl) rfl hmg7 rfl t6.g.hd2 e6 trivial rfl (by decide) hbi7 fun c7 ctv7 h7 tk7 hx7 hge7 hlt7 hrec7 htb7 => ?_
  have t7 := t6.poke145 (h' := h7) (tk := tk7) m145 (by show (145 : Addr) ∈ [145]; simp) (fun b o nb e => hx7 b o nb e) ⟨_, htb7⟩
  generalize hgo : PySem.W.kla_obj _ _ _ _ _ _ _ _ _ = go
  have hgo1 : go.cls = .type "function" ∧ (∃ fd, go.data = .func fd) ∧ go.dict = none ∧ go.isFreed = false := by rw [← hgo]; exact ⟨rfl, ⟨_, rfl⟩, rfl, rfl⟩
  obtain ⟨hgoc, ⟨fdg, hgod⟩, hgon, hgof⟩ := hgo1
  have x8 := Ext.push { s6 with heap := h7, toks := tk7 } go tk7
  have gm : (h7.push go).get? h7.objs.size = some go := Heap.get?_push_size _ hgof
  have t8 := t7.grow x8 (Nat.le_refl _) ⟨_, gm⟩
  have ng : ¬ μ2 h7.objs.size := fresh_not (s := { s6 with heap := h7, toks := tk7 }) t7 (Nat.le_refl _)
  let μ3 : Addr → Prop := fun b => μ2 b ∨ b = h7.objs.size
  refine wp_store' t8 (l := .own [h7.objs.size] (sfR h7.objs.size)) ⟨rfl, .inl rfl⟩ (Held_new (s := { s6 with heap := h7, toks := tk7 }) t7 (Nat.le_refl _) sfR_stable) ⟨rfl, go, fdg, gm, hgoc, hgod, hgon⟩ fun s9 t9 mv9 hk9 => ?_
  -- stream.read = _law_read_on
  refine wpAny_execs_cons (plainObj_wpAny_Assign_Attribute (wpAny_mono (EvV_name (c := c) (x := Str.ofString "_law_read_on") (l := .own [] (rfR (s.heap.objs.size + 1) (s.heap.objs.size + 1 + 1) h4.objs.size c')) rfl μ3 s9 t9) (fun v s10 q10 => ?_) fun _ _ z => z) rfl)
  obtain ⟨x10, rv10⟩ := q10
  obtain ⟨rfl, _⟩ := (show rfR (s.heap.objs.size + 1) (s.heap.objs.size + 1 + 1) h4.objs.size c' μ3 s10.heap v from rv10)
  have t10 := t9.ext x10
  refine wpAny_mono (EvV_name (c := c) (x := Str.ofString "stream") (l := .own [h7.objs.size] (sfR h7.objs.size)) rfl μ3 s10 t10) (fun v s11 q11 => ?_) fun _ _ z => z
  obtain ⟨x11, rv11⟩ := q11
  obtain ⟨rfl, o11, fd11, e11, c11, d11, n11⟩ := (show sfR h7.objs.size μ3 s11.heap v from rv11)
  have t11 := t10.ext x11
  obtain ⟨hp11, gg11, dr11, tk11, os11⟩ := s11
  refine fn_setattr e11 c11 d11 n11 fun h12 tk12 ns12 hk12 e12 => ?_
  have ngd : ¬ μ3 hp11.objs.size := fresh_not (s := ⟨hp11, gg11, dr11, tk11, os11⟩) t11 (Nat.le_refl _)
  obtain ⟨t12, mv12⟩ := t11.setOwn (h' := h12) (tk := tk12) (x := Str.ofString "stream") (as := [h7.objs.size]) (a := h7.objs.size) (R := sfR h7.objs.size) (R' := stR h7.objs.size h4.objs.size hp11.objs.size) rfl (by simp) hk12 ⟨_, e12⟩ stR_stable fun v hv =>
    ⟨hv.1, _, fd11, _, e12, c11, d11, rfl, ngd, ns12, by simp⟩
  -- return _netrclex(stream)
  refine wpAny_execs_cons (wpAny_Return_some (wpAny_mono (wp_newX (x := Str.ofString "_netrclex") (C := 59) (N := 58) (f := 35) (fd := fdNInit) (tab := netTab) (n := 1) (d1 := .adr h7.objs.size) t12 (EvV.mono (EvV_name (c := c) (x := Str.ofString "stream") (l := .own [h7.objs.size] (stR h7.objs.size h4.objs.size hp11.objs.size)) rfl) fun μ h v r => by rw [(show stR h7.objs.size h4.objs.size hp11.objs.size μ h v from r).1]; exact .adr _) (by exact mem_lk (by kernel_rfl)) rfl (by exact mem_lkA rfl) (by simp) (by exact mem_lkA rfl) (fun a dd => fn_NInit w h7.objs.size a dd) (by show 2 ≤ 3; (first | lia | omega))) (fun v s' q => ?_) fun _ _ z => z))
  obtain ⟨s13, a, dd, as', R', rfl, ⟨p, rfl, rfl⟩, x13, x14, hnd, hb, hR⟩ := q
  have t13 := t12.ext x13
  have t14 := t13.ext x14
  obtain ⟨m14, hn14, hv14⟩ := t14.frame.var
  obtain ⟨m13, hn13, hv13⟩ := t13.frame.var
  obtain ⟨_, ua, vaA, rA⟩ := hv14 (Str.ofString "at") (OL w ta [.int 0]) rfl
  obtain ⟨_, ut, vaT, rT⟩ := hv14 (Str.ofString "text") (.fz (.str (S cs))) rfl
  obtain ⟨_, uf, _, rF⟩ := hv14 (Str.ofString "_law_read_on") (.own [] (rfR (s.heap.objs.size + 1) (s.heap.objs.size + 1 + 1) h4.objs.size c')) rfl
  obtain ⟨_, ug, _, rG⟩ := hv14 (Str.ofString "stream") (.own [h7.objs.size] (stR h7.objs.size h4.objs.size hp11.objs.size)) rfl
  obtain ⟨_, uf3, _, rF3⟩ := hv13 (Str.ofString "_law_read_on") (.own [] (rfR (s.heap.objs.size + 1) (s.heap.objs.size + 1 + 1) h4.objs.size c')) rfl
  obtain ⟨_, ug3, _, rG3⟩ := hv13 (Str.ofString "stream") (.own [h7.objs.size] (stR h7.objs.size h4.objs.size hp11.objs.size)) rfl
  obtain ⟨rfl, vsA, nA, elA, rlA⟩ := (show olR w ta [.int 0] μ3 s'.heap ua from rA)
  obtain ⟨_, nfF, ⟨docF, pmF, ctvF, eF⟩, recF, ncF⟩ := (show rfR (s.heap.objs.size + 1) (s.heap.objs.size + 1 + 1) h4.objs.size c' μ3 s'.heap uf from rF)
  obtain ⟨_, _, ⟨_, _, _, eF3⟩, ⟨cc3, oc3, vs3, tq3, a3, b3, _⟩, _⟩ := (show rfR (s.heap.objs.size + 1) (s.heap.objs.size + 1 + 1) h4.objs.size c' μ3 s13.heap uf3 from rF3)
  obtain ⟨_, goG, fdG, mG, eG, cG, dG, xG, ngdG, nsG, hmG⟩ := (show stR h7.objs.size h4.objs.size hp11.objs.size μ3 s'.heap ug from rG)
  obtain ⟨_, goG3, fdG3, mG3, eG3, cG3, dG3, xG3, ngdG3, nsG3, _⟩ := (show stR h7.objs.size h4.objs.size hp11.objs.size μ3 s13.heap ug3 from rG3)
  cases a3
  obtain ⟨⟨_, hne, ⟨oo, eo, hoo⟩, kvs, ns, rk⟩, np, ep⟩ := (show ipR w a dd p 59 (mcD 1 h7.objs.size p) (fun b => μ3 b ∨ b ∈ [a, dd] ++ [p]) s'.heap (.ref a) from hR)
  have hownA := (t14.frame.own (Str.ofString "at") (OL w ta [.int 0]) rfl).2.2 ta (by simp [OL, LV.adr])
  have hownG := (t14.frame.own (Str.ofString "stream") (.own [h7.objs.size] (stR h7.objs.size h4.objs.size hp11.objs.size)) rfl).2.2 h7.objs.size (by simp [LV.adr])
  have mta : μ3 ta := hownA.1
  have hsz13 : s.heap.objs.size ≤ s13.heap.objs.size := t13.size
  have inS : ∀ b : Addr, c.S b → b = 145 := fun b hb => List.mem_singleton.mp (show b ∈ [145] from hb)
  have baseA : s.heap.objs.size ≤ ta := hownA.2.2.2.1.elim (fun z => z) fun z => absurd (inS _ z) (n145 _ hownA.2.2.2.2)
  have baseG : s.heap.objs.size ≤ h7.objs.size := hownG.2.2.2.1.elim (fun z => z) fun z => absurd (inS _ z) (n145 _ hownG.2.2.2.2)
  have hb3 : s13.heap.objs.size ≤ a ∧ s13.heap.objs.size ≤ dd ∧ s13.heap.objs.size ≤ p := ⟨(hb a (by simp)).1, (hb dd (by simp)).1, (hb p (by simp)).1⟩
  have lta : ta < s13.heap.objs.size := t13.lt ta mta
  have nν : ∀ b : Addr, s.heap.objs.size ≤ b → b < s13.heap.objs.size → b ≠ ta → ¬ (μ b ∨ b ∈ [a, dd, p, ta]) := by
    intro b h1 h2 h3 z
    rcases z with z | z
    · obtain ⟨o, e⟩ := hμ.live b z; exact Nat.not_lt.mpr h1 (Heap.lt_size e)
    · simp only [List.mem_cons, List.not_mem_nil, or_false] at z
      rcases z with rfl | rfl | rfl | rfl
      · exact Nat.not_lt.mpr hb3.1 h2
      · exact Nat.not_lt.mpr hb3.2.1 h2
      · exact Nat.not_lt.mpr hb3.2.2 h2
      · exact h3 rfl
  have cellT : ∃ tk, s'.heap.IsCell (s.heap.objs.size + 1) (some (.str (S cs) tk)) := by
    cases rT using Rp.elimStr with
    | str tkT =>
      rcases vaT with ⟨k, _⟩ | ⟨_, cl, e1, e2⟩
      · have k' : (some NameKind.cell) = some NameKind.local := k
        cases k'
      · have : cl = s.heap.objs.size + 1 := (Option.some.inj (show some (s.heap.objs.size + 1) = some cl from e1)).symm
        subst this
        exact ⟨tkT, e2⟩
  have cellA : s'.heap.IsCell (s.heap.objs.size + 1 + 1) (some (.ref ta)) := by
    rcases vaA with ⟨k, _⟩ | ⟨_, cl, e1, e2⟩
    · have k' : (some NameKind.cell) = some NameKind.local := k
      cases k'
    · have : cl = s.heap.objs.size + 1 + 1 := (Option.some.inj (show some (s.heap.objs.size + 1 + 1) = some cl from e1)).symm
      subst this
      exact e2
  have fpT : (s.heap.objs.size + 1 : Nat) ∈ c.fp := by show (s.heap.objs.size + 1 : Nat) ∈ [s.heap.objs.size, s.heap.objs.size + 1 + 1, s.heap.objs.size + 1]; simp
  have fpA : (s.heap.objs.size + 1 + 1 : Nat) ∈ c.fp := by show (s.heap.objs.size + 1 + 1 : Nat) ∈ [s.heap.objs.size, s.heap.objs.size + 1 + 1, s.heap.objs.size + 1]; simp
  have evA : ∃ tk, vsA = #[.int 0 tk] := by
    have : ∃ tk, vsA.toList = [.int 0 tk] := by
      generalize vsA.toList = vl at rlA
      cases rlA using RpL.elimCons with | cons a b => cases b; cases a using Rp.elimInt; exact ⟨_, rfl⟩
    obtain ⟨tk, e⟩ := this
    exact ⟨tk, by rw [← Array.toArray_toList (xs := vsA), e]⟩
  obtain ⟨tkA, rfl⟩ := evA
  have e145 : ∃ ws, s'.heap.get? 145 = some (PySem.W.tabObj ws) :=
    ⟨_, (x13.trans x14).keep _ _ (hk12 145 _ (n145 _ hownG.2.2.2.2).symm ((x10.trans x11).keep _ _ (hk9 145 _ (nfp t8) (Heap.get?_push_of_some _ htb7)) (by decide))) (by decide)⟩
  refine hZ a dd p ta h7.objs.size s' e145 ⟨fun b o e n n' => t14.keep b o e (fun z => n' z) n, t14.os, t14.bare, t14.g.tab, fun b hb' => ?_⟩ ?_ (fun b hb' => ?_) ⟨rfl, hne, ⟨oo, eo, hoo⟩, ⟨kvs, ns, ?_⟩, ⟨h4.objs.size, s.heap.objs.size + 1, s.heap.objs.size + 1 + 1, cs, 0, ?_, ?_, Nat.zero_le _, hc, rfl, tkA, nA, elA⟩, ⟨#[], np, ep, .nil⟩⟩
  · rw [List.mem_singleton.mp hb']; exact t14.live 145 (.inl m145)
  · have h1 : a ≠ dd ∧ a ≠ p ∧ dd ≠ p := by
      have := hnd; simp at this
      exact ⟨this.1.1, this.1.2, this.2⟩
    have nta : ∀ b, s13.heap.objs.size ≤ b → b ≠ ta := fun b hb' z => Nat.not_lt.mpr (z ▸ hb') lta
    simp only [List.nodup_cons, List.mem_cons, List.not_mem_nil, or_false, not_or, not_false_eq_true, List.nodup_nil, and_true]
    exact ⟨⟨h1.1, h1.2.1, nta a hb3.1⟩, ⟨h1.2.2, nta dd hb3.2.1⟩, nta p hb3.2.2⟩
  · simp only [List.mem_cons, List.not_mem_nil, or_false] at hb'
    rcases hb' with rfl | rfl | rfl | rfl
    · exact ⟨Nat.le_trans hsz13 hb3.1, (hb b (by simp)).2⟩
    · exact ⟨Nat.le_trans hsz13 hb3.2.1, (hb b (by simp)).2⟩
    · exact ⟨Nat.le_trans hsz13 hb3.2.2, (hb b (by simp)).2⟩
    · exact ⟨baseA, hownA.2.2.2.2, t14.live b mta⟩
  · refine RpK.keep (fun b n z => n ?_) (fun _ _ _ e => e) rk
    rcases z with z | z
    · exact .inl (.inl (.inl (.inl z)))
    · simp only [List.mem_cons, List.not_mem_nil, or_false] at z
      rcases z with rfl | rfl | rfl | rfl
      · exact .inr (by simp)
      · exact .inr (by simp)
      · exact .inr (by simp)
      · exact .inl mta
  · refine ⟨goG, hp11.objs.size, fdG, mG, nν _ baseG (t13.lt _ hownG.1) (fun z => ng (z ▸ .inr rfl)), eG, cG, dG, xG, nν _ t11.size ?_ (fun z => ngdG (z ▸ mta)), nsG, hmG⟩
    obtain ⟨o, _, _, e, _⟩ := nsG3; exact Heap.lt_size e
  · refine ⟨⟨docF, pmF, c', ctvF, eF, recF, nν _ (Nat.le_trans t3.size hge4) (Heap.lt_size b3) (fun z => ncF (z ▸ mta))⟩, nν _ t4.size (Heap.lt_size eF3) (fun z => nfF (z ▸ mta)), nν _ (Nat.le_succ _) (t13.lt _ (t13.fpM _ fpT)) (fun z => hownA.2.1 (z ▸ fpT)), nν _ (Nat.le_succ_of_le (Nat.le_succ _)) (t13.lt _ (t13.fpM _ fpA)) (fun z => hownA.2.1 (z ▸ fpA)), cellT, cellA, ?_, t14.frame.big _ fpT, t14.frame.big _ fpA⟩
    exact Nat.ne_of_lt (Nat.lt_succ_self _)
end Mine
end

noncomputable section -- V1
open PySem PyProof.Rows
set_option maxRecDepth 100000
namespace Mine

theorem RpL.ints {w : World} {μ : Addr → Prop} {h : Heap} : ∀ {vs : List Value} {ns : List Int}, RpL w μ h vs (ns.map .int) → IntsAre vs ns
  | _, [], .nil => .nil
  | _, _ :: _, .cons a b => by cases a using Rp.elimInt; exact .cons _ _ (RpL.ints b)

section
variable {c : Cx} {ρ : Loc} {μ : Addr → Prop} {s s' : Shared} {Q : Out → Prop}

theorem Op1.sum {ns : List Int} : Op1 c ρ (fun v => call (.builtin "sum") [v]) (isD c.w (.lst (ns.map .int))) (isD c.w (.int ns.sum)) := fun μ s v t r => by
  cases r using Rp.elimLst with
  | @lst a vs n ha e r =>
  have hi := RpL.ints r
  obtain ⟨xs, hx⟩ := hi.allInts.items
  have hl : s.heap.IsList a vs := ⟨_, e, rfl, n, rfl⟩
  have hl' : s.heap.IsList a (intItems xs) := by rw [← hx]; simpa using hl
  refine sum_intListG t.room.1 hl' fun h' tk t' hk => ?_
  have e1 : ns = xs.toList.map (·.1) := by
    rw [← nums_intItems, ← hx]
    exact (show numsOf vs.toList.toArray.toList = ns from hi.numsOf).symm
  have e2 : preSum (numAt xs) xs.size = ns.sum := by
    rw [preSum_eq, List.take_of_length_le (by simp), e1]
  rw [e2]
  exact ⟨Ext.of_keep hk, .int _ _⟩

theorem Op2.eqNil {ds : List D} : Op2 c ρ (compareOp .Eq) (isD c.w (.lst ds)) (isD c.w (.lst [])) (isD c.w (.bool ds.isEmpty)) := fun μ s v1 v2 t r1 r2 => by
  have hu : c.A.units < cLine := by have := t.room.2.2; show _ < 9900; (first | lia | omega)
  cases r1 using Rp.elimLst with
  | @lst a vs n ha e r =>
  cases r2 using Rp.elimLst with
  | @lst b us m hb e' r' =>
  have h1 : s.heap.IsList a vs := ⟨_, e, rfl, n, rfl⟩
  have h2 : s.heap.IsList b us := ⟨_, e', rfl, m, rfl⟩
  have l1 := r.length
  have l2 := r'.length
  rw [Array.length_toList] at l1 l2
  simp only [List.length_nil] at l2
  cases ds with
  | nil =>
    simp only [List.length_nil] at l1
    have := SeqAt.RcAt.lists (A := c.A) (e := fun _ => true) h1 h2 (by rw [l1, l2]) hu (fun j j1 j2 => absurd j1 (by (first | lia | omega)))
    refine this PG c.w _ _ ⟨.refl s, ?_⟩
    rw [l1]; exact .bool _
  | cons d ds =>
    have := SeqAt.RcAt.lists_lengths (A := c.A) h1 h2 (by rw [l1, l2]; simp) hu
    exact this PG c.w _ _ ⟨.refl s, .bool _⟩
theorem Op2.neNil {ds : List D} : Op2 c ρ (compareOp .NotEq) (isD c.w (.lst ds)) (isD c.w (.lst [])) (isD c.w (.bool (!ds.isEmpty))) := fun μ s v1 v2 t r1 r2 => by
  have hu : c.A.units < cLine := by have := t.room.2.2; show _ < 9900; (first | lia | omega)
  cases r1 using Rp.elimLst with
  | @lst a vs n ha e r =>
  cases r2 using Rp.elimLst with
  | @lst b us m hb e' r' =>
  have h1 : s.heap.IsList a vs := ⟨_, e, rfl, n, rfl⟩
  have h2 : s.heap.IsList b us := ⟨_, e', rfl, m, rfl⟩
  have l1 := r.length
  have l2 := r'.length
  rw [Array.length_toList] at l1 l2
  simp only [List.length_nil] at l2
  cases ds with
  | nil =>
    simp only [List.length_nil] at l1
    have := SeqAt.RcNeAt.lists (A := c.A) (e := fun _ => true) h1 h2 (by rw [l1, l2]) hu (fun j j1 j2 => absurd j1 (by (first | lia | omega)))
    refine this PG c.w _ _ ⟨.refl s, ?_⟩
    rw [l1]; exact .bool _
  | cons d ds =>
    have := SeqAt.RcNeAt.lists_lengths (A := c.A) h1 h2 (by rw [l1, l2]; simp) hu
    exact this PG c.w _ _ ⟨.refl s, .bool _⟩

noncomputable def EqOk (w : World) (r : Nat) (P : D → D → Prop) : Prop := ∀ (A : Around) (s : Shared) (μ : Addr → Prop) (v u : Value) (d e : D), A.units + r < cLine → Rp w μ s.heap v d → Rp w μ s.heap u e → P d e → SeqAt.EqAt A s v u true
noncomputable def flat : D → Prop
  | .int _ => True
  | .str _ => True
  | _ => False
theorem EqOk.flat {w : World} {r : Nat} : EqOk w r (fun d e => d = e ∧ flat d) := by
  rintro A s μ v u d e hu r1 r2 ⟨rfl, hf⟩
  cases r1 <;> first | exact hf.elim | skip
  · rename_i i t; cases r2; have := SeqAt.EqAt.int_int (A := A) (s := s) i t i ‹_›; simpa using this
  · rename_i x t; cases r2; have := SeqAt.EqAt.str_str (A := A) (s := s) x t x ‹_›; simpa using this
theorem flat_items {w : World} {μ : Addr → Prop} {s : Shared} {A : Around} {r : Nat} {vs us : Array Value} {ds : List D} (hu : A.units + r < cLine) (r1 : RpL w μ s.heap vs.toList ds) (r2 : RpL w μ s.heap us.toList ds) {P : D → D → Prop} (hp : EqOk w r P) (hf : ∀ d ∈ ds, P d d) :
    ∀ j (h1 : j < vs.size) (h2 : j < us.size), SeqAt.EqAt A s vs[j] us[j] true := fun j h1 h2 => by
  have g1 : vs.toList[j]? = some vs[j] := by simp [h1]
  have g2 : us.toList[j]? = some us[j] := by simp [h2]
  obtain ⟨d1, e1, q1⟩ := r1.getV g1
  obtain ⟨d2, e2, q2⟩ := r2.getV g2
  rw [e1] at e2; cases e2
  exact hp A s μ _ _ d1 d1 hu q1 q2 (hf d1 (List.mem_of_getElem? e1))
noncomputable def flatT : D → Prop
  | .tup ds => ∀ d ∈ ds, flat d
  | _ => False
theorem EqOk.tup {w : World} {r : Nat} : EqOk w (r + 1) (fun d e => d = e ∧ flatT d) := by
  rintro A s μ v u d e hu r1 r2 ⟨rfl, hf⟩
  cases d <;> first | exact hf.elim | skip
  rename_i ds
  cases r1 using Rp.elimTup with
  | @tup a vs n ha e r1 =>
  cases r2 using Rp.elimTup with
  | @tup b us m hb e' r2 =>
  by_cases hab : a = b
  · subst hab; exact SeqAt.EqAt.same _
  · have h1 : s.heap.IsTuple a vs := ⟨_, e, rfl, n, rfl⟩
    have h2 : s.heap.IsTuple b us := ⟨_, e', rfl, m, rfl⟩
    have l1 := r1.length
    have l2 := r2.length
    rw [Array.length_toList] at l1 l2
    have hr : A.in1.units + r < cLine := by show A.units + 1 + r < cLine; (first | lia | omega)
    have := SeqAt.RcAt.tuples (A := A) (e := fun _ => true) h1 h2 (by (first | lia | omega)) (flat_items hr r1 r2 EqOk.flat fun d hd => ⟨rfl, hf d hd⟩)
    refine SeqAt.EqAt.of_refs hab ?_
    have e1 : ((List.range (min vs.size us.size)).all (fun _ => true) && vs.size == us.size) = true := by
      rw [l1, l2, List.all_eq_true.mpr (fun _ _ => rfl)]; simp
    rw [e1] at this
    exact this
noncomputable def EqW (w : World) (A : Around) (s : Shared) (v y : Value) : Prop := ∀ (E : Value → Shared → Prop) (Q : Bool → Shared → Prop), Q true s → wpAny (model PG w) A (eqBool v y) Q E s
theorem EqW.of {w : World} {A : Around} {s : Shared} {v y : Value} (h : SeqAt.EqAt A s v y true) : EqW w A s v y := fun E Q hq => h PG w E Q hq
noncomputable def EqOkW (w : World) (r : Nat) (P : D → D → Prop) : Prop := ∀ (A : Around) (s : Shared) (μ : Addr → Prop) (v u : Value) (d e : D), A.units + r < cLine → Rp w μ s.heap v d → Rp w μ s.heap u e → P d e → EqW w A s v u
theorem EqOk.w {w : World} {r : Nat} {P : D → D → Prop} (h : EqOk w r P) : EqOkW w r P := fun A s μ v u d e h1 h2 h3 h4 => .of (h A s μ v u d e h1 h2 h3 h4)

theorem pairs_same {w : World} {A : Around} {E : Value → Shared → Prop} {s : Shared} {nm : String} {a b : Addr} {ka kb : List (Str × Value)} {R : Bool → Shared → Prop} (ha : (a == sysModules) = false) (hb : (b == sysModules) = false)
    (da : s.heap.DictOf (PySem.strKind PG w) a ka) (db : s.heap.DictOf (PySem.strKind PG w) b kb) (hl : ka.length = kb.length) (hit : ∀ k v, (k, v) ∈ ka → ∃ y, valueAt kb k = some y ∧ EqW w A s v y) (h : R true s) :
    wpAny (model PG w) A (Builtin.Dict.samePairs nm a b) R E s := by
  obtain ⟨oa, es, ep, hoa, _, hda, hka, hpa, _⟩ := da
  obtain ⟨ob, es', ep', hob, _, hdb, hkb, hpb, _⟩ := db
  have hla : ka.length = es.size := by rw [← hpa.length]; exact Array.length_toList
  have hlb : kb.length = es'.size := by rw [← hpb.length]; exact Array.length_toList
  have hfind : ∀ k, findBy (PySem.strKind PG w).is es' k = valueAt kb k := fun k => by
    rw [← hpb.find k]
    clear hlb hpb hkb hdb hob
    obtain ⟨l⟩ := es'
    simp [findBy]
  unfold Builtin.Dict.samePairs Builtin.Dict.showsAll
  rw [if_neg (by rw [ha]; exact Bool.false_ne_true), if_neg (by rw [hb]; exact Bool.false_ne_true)]
  refine wpAny_bind (wpAny_pure (wpAny_bind (wpAny_pure (wpAny_bind (wpAny_dictEntries hoa hda ?_)))))
  refine wpAny_bind (wpAny_dictEntries hob hdb ?_)
  rw [if_neg (by rw [← hla, ← hlb, hl]; simp)]
  refine wpAny_bind (wpAny_dictEpoch hoa hda (wpAny_bind ?_))
  rw [Std.Legacy.Range.forIn_eq_forIn_range']
  refine wpAny_forIn_list _ (fun rest q s' => s' = s ∧ q = (none, ()) ∧ ∀ i ∈ rest, i < es.size) _ ?_ ?_ _ _ ⟨rfl, rfl, fun i hi => ?_⟩
  · rintro x rest q s' ⟨rfl, rfl, hr⟩
    have hlt : x < es.size := hr x List.mem_cons_self
    have hltk : x < ka.length := by rw [hla]; exact hlt
    refine wpAny_bind (wpAny_dictEntries hoa hda ?_)
    rw [Array.getElem?_eq_getElem hlt]
    obtain ⟨k, v, hkv⟩ : ∃ k v, ka[x] = (k, v) := ⟨_, _, rfl⟩
    obtain ⟨hkey, hval⟩ := hpa.get? (i := x) (e := es[x]) (k := k) (v := v) (by rw [Array.getElem?_toList]; exact Array.getElem?_eq_getElem hlt) (by rw [List.getElem?_eq_getElem hltk, hkv])
    obtain ⟨k', hk', hh⟩ := hka es[x] (Array.getElem_mem hlt)
    have ekk : k' = k := (PySem.strKind PG w).inj _ _ _ hk' hkey
    rw [ekk] at hh
    obtain ⟨y, hy, hey⟩ := hit k v (hkv ▸ List.getElem_mem hltk)
    show wpAny _ _ (holding [es[x].key, es[x].val] _ >>= _) _ _ _
    rw [hh]
    refine wpAny_bind (wpAny_holding (wpAny_bind (wpAny_dictFind_of hkey hob hdb hkb ?_)))
    cases hj : es'.findIdx? fun e => (PySem.strKind PG w).is k e.key with
    | none =>
      have hn : valueAt kb k = none := by rw [← hfind k, findBy_of_findIdx?, hj]
      rw [hn] at hy; cases hy
    | some j =>
      obtain ⟨hjlt, _, _⟩ := Array.findIdx?_eq_some_iff_getElem.mp hj
      have hv' : valueAt kb k = some es'[j].val := by
        rw [← hfind k, findBy_of_findIdx?, hj]
        simp [Array.getElem?_eq_getElem hjlt]
      refine wpAny_bind (wpAny_dictEntries hob hdb ?_)
      rw [Array.getElem?_eq_getElem hjlt]
      have ey : es'[j].val = y := Option.some.inj (hv'.symm.trans hy)
      rw [← ey, ← hval] at hey
      refine wpAny_holding (hey _ _ ?_)
      rw [if_neg (by decide)]
      refine wpAny_bind (wpAny_dictEpoch hoa hda ?_)
      rw [if_neg (by simp)]
      exact wpAny_pure ⟨rfl, rfl, fun i hi => hr i (List.mem_cons_of_mem _ hi)⟩
  · rintro q s' ⟨rfl, rfl, _⟩
    exact wpAny_pure h
  · simp only [List.mem_range'_1, Std.Legacy.Range.size] at hi; (first | lia | omega)

theorem rc_dict {w : World} {A : Around} {E : Value → Shared → Prop} {s : Shared} {a b : Addr} {ka kb : List (Str × Value)} {R : Value → Shared → Prop} (ha : (a == sysModules) = false) (hb : (b == sysModules) = false) (hu : A.units < cLine)
    (da : s.heap.DictOf (PySem.strKind PG w) a ka) (db : s.heap.DictOf (PySem.strKind PG w) b kb) (hl : ka.length = kb.length) (hit : ∀ k v, (k, v) ∈ ka → ∃ y, valueAt kb k = some y ∧ EqW w A.in1 s v y) (h : R (.bool true) s) :
    wpAny (model PG w) A (richCompare .Eq (.ref a) (.ref b)) R E s := by
  refine wpAny_richCompare_same_room (op := .Eq) da.typeIs db.typeIs PySem.F.slot_dict_eq (wpAny_call_entry PySem.F.slot_dict_eq da.typeIs PySem.F.entry_dict_eq ?_ (PySem.F.args_dict_eq_2 _ _)) hu
  show wpAny _ _ (Builtin.Dict.dictSlotArgs "__eq__" ⟨[.ref a, .ref b], []⟩ >>= _) _ _ s
  refine wpAny_bind ?_
  unfold Builtin.Dict.dictSlotArgs
  refine wpAny_bind (wpAny_notOrdered_dict da.typeIs ?_)
  show wpAny _ _ (pure (Value.ref a, Value.ref b)) _ _ s
  refine wpAny_pure ?_
  refine wpAny_bind (wpAny_isInstance (T := "dict") db.typeIs PySem.F.sub_dict_dict ?_)
  simp only [Bool.not_true, Bool.false_eq_true, if_false]
  refine wpAny_bind (wpAny_pure (wpAny_bind (wpAny_pure ?_)))
  refine wpAny_bind (pairs_same ha hb da db hl hit ?_)
  exact wpAny_pure ⟨_, rfl, (fun x => nomatch x), h⟩
theorem rn_dict {w : World} {A : Around} {E : Value → Shared → Prop} {s : Shared} {a b : Addr} {ka kb : List (Str × Value)} {R : Value → Shared → Prop} (ha : (a == sysModules) = false) (hb : (b == sysModules) = false) (hu : A.units < cLine)
    (da : s.heap.DictOf (PySem.strKind PG w) a ka) (db : s.heap.DictOf (PySem.strKind PG w) b kb) (hl : ka.length = kb.length) (hit : ∀ k v, (k, v) ∈ ka → ∃ y, valueAt kb k = some y ∧ EqW w A.in1 s v y) (h : R (.bool false) s) :
    wpAny (model PG w) A (richCompare .NotEq (.ref a) (.ref b)) R E s := by
  refine wpAny_richCompare_same_room (op := .NotEq) da.typeIs db.typeIs PySem.F.slot_dict_ne (wpAny_call_entry PySem.F.slot_dict_ne da.typeIs PySem.F.entry_dict_ne ?_ (PySem.F.args_dict_ne_2 _ _)) hu
  show wpAny _ _ (Builtin.Dict.dictSlotArgs "__ne__" ⟨[.ref a, .ref b], []⟩ >>= _) _ _ s
  refine wpAny_bind ?_
  unfold Builtin.Dict.dictSlotArgs
  refine wpAny_bind (wpAny_notOrdered_dict da.typeIs ?_)
  show wpAny _ _ (pure (Value.ref a, Value.ref b)) _ _ s
  refine wpAny_pure ?_
  refine wpAny_bind (wpAny_isInstance (T := "dict") db.typeIs PySem.F.sub_dict_dict ?_)
  simp only [Bool.not_true, Bool.false_eq_true, if_false]
  refine wpAny_bind (wpAny_pure (wpAny_bind (wpAny_pure ?_)))
  refine wpAny_bind (pairs_same ha hb da db hl hit ?_)
  exact wpAny_pure ⟨_, rfl, (fun x => nomatch x), h⟩

noncomputable def DSame (P : D → D → Prop) (ds es : List (Str × D)) : Prop := ds.length = es.length ∧ ∀ k d, (k, d) ∈ ds → ∃ e, lookD es k = some e ∧ P d e
theorem RpK.mem {w : World} {μ : Addr → Prop} {h : Heap} {vs : List (Str × Value)} {ds : List (Str × D)} (r : RpK w μ h vs ds) {k : Str} {v : Value} (hm : (k, v) ∈ vs) : ∃ d, (k, d) ∈ ds ∧ Rp w μ h v d := by
  obtain ⟨i, hi⟩ := List.getElem?_of_mem hm
  obtain ⟨d, e, q⟩ := r.getV hi
  exact ⟨d, List.mem_of_getElem? e, q⟩
theorem same_hits {w : World} {μ : Addr → Prop} {s : Shared} {A : Around} {r : Nat} {P : D → D → Prop} (hp : EqOkW w r P) (hu : A.units + r < cLine) {ka kb : List (Str × Value)} {ds es : List (Str × D)} (ra : RpK w μ s.heap ka ds) (rb : RpK w μ s.heap kb es) (hs : DSame P ds es) :
    ∀ k v, (k, v) ∈ ka → ∃ y, valueAt kb k = some y ∧ EqW w A s v y := fun k v hm => by
  obtain ⟨d, hd, rd⟩ := ra.mem hm
  obtain ⟨e, he, pe⟩ := hs.2 k d hd
  obtain ⟨y, hy, ry⟩ := rb.look he
  exact ⟨y, hy, hp A s μ v y d e hu rd ry pe⟩
theorem EqOkW.dct {w : World} {r : Nat} {P : D → D → Prop} (hp : EqOkW w r P) : EqOkW w (r + 1) (fun d e => ∃ ds es, d = .dct ds ∧ e = .dct es ∧ DSame P ds es) := by
  rintro A s μ v u d e hu r1 r2 ⟨ds, es, rfl, rfl, hs⟩ E Q hq
  cases r1 using Rp.elimDct with
  | @dct a ka ha hsa da r1 =>
  cases r2 using Rp.elimDct with
  | @dct b kb hb hsb db r2 =>
  unfold eqBool
  refine wpAny_holding ?_
  refine wpAny_ite_split (fun _ => wpAny_bind (wpAny_rule (wpAny_pure hq))) (fun _ => ?_)
  have hr : A.in1.units + r < cLine := by show A.units + 1 + r < cLine; (first | lia | omega)
  exact wpAny_bind (rc_dict hsa hsb (by (first | lia | omega)) da db (by rw [r1.length, r2.length, hs.1]) (same_hits hp hr r1 r2 hs) (wpAny_truthy_bool hq))

section
variable {c : Cx} {ρ : Loc}
theorem units_lt {μ : Addr → Prop} {s : Shared} (t : StM c μ ρ s) : c.A.units + 10 < cLine := by have := t.room.2.2; show _ < 9900; (first | lia | omega)
theorem Op2.neDct {P : D → D → Prop} {ds es : List (Str × D)} (hp : EqOkW c.w 5 P) (hs : DSame P ds es) : Op2 c ρ (compareOp .NotEq) (isD c.w (.dct ds)) (isD c.w (.dct es)) (isD c.w (.bool false)) := fun μ s v1 v2 t r1 r2 => by
  have hu := units_lt t
  cases r1 using Rp.elimDct with
  | @dct a ka ha hsa da r1 =>
  cases r2 using Rp.elimDct with
  | @dct b kb hb hsb db r2 =>
  have hr : c.A.in1.units + 5 < cLine := by show c.A.units + 1 + 5 < cLine; (first | lia | omega)
  exact rn_dict hsa hsb (by (first | lia | omega)) da db (by rw [r1.length, r2.length, hs.1]) (same_hits hp hr r1 r2 hs) ⟨.refl s, .bool _⟩
theorem Op2.neTup {ds : List D} (hf : ∀ d ∈ ds, flat d) : Op2 c ρ (compareOp .NotEq) (isD c.w (.tup ds)) (isD c.w (.tup ds)) (isD c.w (.bool false)) := fun μ s v1 v2 t r1 r2 => by
  have hu := units_lt t
  cases r1 using Rp.elimTup with
  | @tup a vs n ha e r1 =>
  cases r2 using Rp.elimTup with
  | @tup b us m hb e' r2 =>
  have h1 : s.heap.IsTuple a vs := ⟨_, e, rfl, n, rfl⟩
  have h2 : s.heap.IsTuple b us := ⟨_, e', rfl, m, rfl⟩
  have l1 := r1.length
  have l2 := r2.length
  rw [Array.length_toList] at l1 l2
  have hr : c.A.in1.units + 5 < cLine := by show c.A.units + 1 + 5 < cLine; (first | lia | omega)
  have := SeqAt.RcNeAt.tuples (A := c.A) (e := fun _ => true) h1 h2 (by (first | lia | omega)) (flat_items hr r1 r2 EqOk.flat fun d hd => ⟨rfl, hf d hd⟩)
  have e1 : (!((List.range (min vs.size us.size)).all (fun _ => true) && vs.size == us.size)) = false := by
    rw [l1, l2, List.all_eq_true.mpr (fun _ _ => rfl)]; simp
  rw [e1] at this
  exact this PG c.w _ _ ⟨.refl s, .bool _⟩
theorem Op2.neLst {ds : List D} (hf : ∀ d ∈ ds, flatT d) : Op2 c ρ (compareOp .NotEq) (isD c.w (.lst ds)) (isD c.w (.lst ds)) (isD c.w (.bool false)) := fun μ s v1 v2 t r1 r2 => by
  have hu := units_lt t
  cases r1 using Rp.elimLst with
  | @lst a vs n ha e r1 =>
  cases r2 using Rp.elimLst with
  | @lst b us m hb e' r2 =>
  have h1 : s.heap.IsList a vs := ⟨_, e, rfl, n, rfl⟩
  have h2 : s.heap.IsList b us := ⟨_, e', rfl, m, rfl⟩
  have l1 := r1.length
  have l2 := r2.length
  rw [Array.length_toList] at l1 l2
  have hr : c.A.in1.units + 6 < cLine := by show c.A.units + 1 + 6 < cLine; (first | lia | omega)
  have := SeqAt.RcNeAt.lists (A := c.A) (e := fun _ => true) h1 h2 (by (first | lia | omega)) (by (first | lia | omega)) (flat_items hr r1 r2 (EqOk.tup (r := 5)) fun d hd => ⟨rfl, hf d hd⟩)
  rw [List.all_eq_true.mpr (fun _ _ => rfl)] at this
  exact this PG c.w _ _ ⟨.refl s, .bool _⟩
end
end
end Mine
end

noncomputable section -- V2
open PySem PyProof.Rows
open PySem.W (KasT kas_sort kas_ask kas_asc kas_count)
set_option maxRecDepth 100000
namespace Mine

noncomputable def kasRun {α : Type} (lt : Nat → Nat → Bool) : KasT α → α
  | .ret a => a
  | .ask i j k => kasRun lt (k (lt i j))
noncomputable def kasIn {α : Type} (n : Nat) (lt : Nat → Nat → Bool) : KasT α → Prop
  | .ret _ => True
  | .ask i j k => i < n ∧ j < n ∧ kasIn n lt (k (lt i j))
noncomputable def kasAll {α : Type} (n : Nat) : KasT α → Bool
  | .ret _ => true
  | .ask i j k => decide (i < n) && decide (j < n) && kasAll n (k true) && kasAll n (k false)
theorem kasAll_in {α : Type} {n : Nat} {lt : Nat → Nat → Bool} : ∀ {t : KasT α}, kasAll n t = true → kasIn n lt t
  | .ret _, _ => trivial
  | .ask i j k, h => by
    unfold kasAll at h
    simp only [Bool.and_eq_true, decide_eq_true_eq] at h
    refine ⟨h.1.1.1, h.1.1.2, ?_⟩
    cases lt i j with
    | true => exact kasAll_in h.1.2
    | false => exact kasAll_in h.2
theorem kas_wp {α : Type} {n : Nat} {lt : Nat → Nat → Bool} {cmp : Nat → Nat → (Bool → Shared → Prop) → Shared → Prop} {s : Shared} (hc : ∀ i j C, i < n → j < n → C (lt i j) s → cmp i j C s) :
    ∀ (t : KasT α) (Q : α → Shared → Prop), kasIn n lt t → Q (kasRun lt t) s → t.kasWp cmp Q s
  | .ret a, Q, _, h => h
  | .ask i j k, Q, hi, h => hc i j _ hi.1 hi.2.1 (kas_wp hc (k (lt i j)) Q hi.2.2 h)

theorem kas_asc_up {n : Nat} {lt : Nat → Nat → Bool} (h : ∀ i, i + 1 < n → lt (i + 1) i = false) : ∀ (f k : Nat), 1 ≤ k → k + f = n → kasIn n lt (kas_asc (List.toArray (List.range n)) f k) ∧ kasRun lt (kas_asc (List.toArray (List.range n)) f k) = n
  | 0, k, _, e => ⟨trivial, by show k = n; (first | lia | omega)⟩
  | f + 1, k, h1, e => by
    have g1 : (List.toArray (List.range n)).getD k 0 = k := by simp [Array.getD, show k < n by (first | lia | omega)]
    have g2 : (List.toArray (List.range n)).getD (k - 1) 0 = k - 1 := by simp [Array.getD, show k - 1 < n by (first | lia | omega)]
    have ha : lt k (k - 1) = false := by have := h (k - 1) (by (first | lia | omega)); rwa [Nat.sub_add_cancel h1] at this
    have ih := kas_asc_up h f (k + 1) (by (first | lia | omega)) (by (first | lia | omega))
    unfold kas_asc
    rw [g1, g2]
    constructor
    · refine ⟨by (first | lia | omega), by (first | lia | omega), ?_⟩
      rw [ha]; exact ih.1
    · show kasRun lt (if lt k (k - 1) = true then _ else _) = n
      rw [ha]; exact ih.2
theorem kasIn_bind {α β : Type} {n : Nat} {lt : Nat → Nat → Bool} {f : α → KasT β} : ∀ {t : KasT α}, kasIn n lt t → kasIn n lt (f (kasRun lt t)) → kasIn n lt (t.bind f)
  | .ret a, _, h => h
  | .ask i j k, hi, h => ⟨hi.1, hi.2.1, kasIn_bind (t := k (lt i j)) hi.2.2 h⟩
theorem kasRun_bind {α β : Type} {lt : Nat → Nat → Bool} {f : α → KasT β} : ∀ {t : KasT α}, kasRun lt (t.bind f) = kasRun lt (f (kasRun lt t))
  | .ret a => rfl
  | .ask i j k => kasRun_bind (t := k (lt i j))
theorem kas_sort_up {n : Nat} {lt : Nat → Nat → Bool} (hn : 1 ≤ n) (h : ∀ i, i + 1 < n → lt (i + 1) i = false) : kasIn n lt (kas_sort n) ∧ kasRun lt (kas_sort n) = List.toArray (List.range n) := by
  have a := kas_asc_up h (n - 1) 1 (Nat.le_refl _) (by (first | lia | omega))
  have c : kasIn n lt (kas_count n (List.toArray (List.range n))) ∧ kasRun lt (kas_count n (List.toArray (List.range n))) = (n, List.toArray (List.range n)) := by
    unfold kas_count
    constructor
    · refine kasIn_bind a.1 ?_
      rw [a.2]; simp; trivial
    · rw [kasRun_bind, a.2]; simp; rfl
  unfold kas_sort
  constructor
  · refine kasIn_bind c.1 ?_
    rw [c.2]; simp; trivial
  · rw [kasRun_bind, c.2]; simp; rfl

noncomputable def ranksOk (n : Nat) (r : List Nat) : Bool :=
  let p := (kasRun (fun i j => decide (r.getD i 0 < r.getD j 0)) (kas_sort n)).toList
  p.length == n && (List.range n).all (fun i => p.contains i) && ((p.zip (p.drop 1)).all fun x => decide (r.getD x.1 0 ≤ r.getD x.2 0))
noncomputable def allRanks (m : Nat) : Nat → List (List Nat)
  | 0 => [[]]
  | n + 1 => (allRanks m n).flatMap fun l => (List.range m).map fun x => x :: l
noncomputable def nodupB : List Nat → Bool
  | [] => true
  | x :: l => !l.contains x && nodupB l
theorem kasAll4 : kasAll 4 (kas_sort 4) = true := by decide +kernel
theorem kasAll5 : kasAll 5 (kas_sort 5) = true := by decide +kernel
theorem mem_allRanks {m : Nat} : ∀ {n : Nat} {l : List Nat}, l.length = n → (∀ x ∈ l, x < m) → l ∈ allRanks m n
  | 0, l, h, _ => by rw [List.length_eq_zero_iff.mp h]; simp [allRanks]
  | n + 1, [], h, _ => by cases h
  | n + 1, x :: l, h, hx => by
    unfold allRanks
    rw [List.mem_flatMap]
    exact ⟨l, mem_allRanks (by simpa using h) fun y hy => hx y (List.mem_cons_of_mem _ hy), List.mem_map.mpr ⟨x, List.mem_range.mpr (hx x List.mem_cons_self), rfl⟩⟩
theorem nodupB_of {l : List Nat} (h : l.Nodup) : nodupB l = true := by
  induction l with
  | nil => rfl
  | cons x l ih =>
    rw [List.nodup_cons] at h
    unfold nodupB
    rw [ih h.2, Bool.and_true, Bool.not_eq_true', List.contains_eq_mem]
    simpa using h.1
noncomputable def keyLt (x y : Int × Str) : Bool := if x.1 = y.1 then decide (x.2.cps.toList < y.2.cps.toList) else decide (x.1 < y.1)
noncomputable def keyD (x : Int × Str) : D := .tup [.int x.1, .str x.2]

section
variable {c : Cx} {ρ : Loc} {μ : Addr → Prop} {s s' : Shared} {Q : Out → Prop}

theorem kat_ask {prog : Program} {w : World} {A : Around} {vs : List Value} {ks : List (Int × Str)} {i j : Nat} {C : Bool → Shared → Prop} (r : RpL w μ s.heap vs (ks.map keyD)) (hi : i < ks.length) (hj : j < ks.length) (h : C (keyLt (ks.getD i (0, ⟨#[]⟩)) (ks.getD j (0, ⟨#[]⟩))) s) :
    kas_ask prog w A (tuples' true) vs i j C s := by
  have item : ∀ k, k < ks.length → ∃ a xs n t u, vs.getD k Value.none = .ref a ∧ s.heap.get? a = some (tupO xs n) ∧ xs.toList = [.int (ks.getD k (0, ⟨#[]⟩)).1 t, .str (ks.getD k (0, ⟨#[]⟩)).2 u] := by
    intro k hk
    have e : (ks.map keyD)[k]? = some (keyD ks[k]) := by simp [hk]
    obtain ⟨v, h1, h2⟩ := r.get e
    have hg : ks.getD k (0, ⟨#[]⟩) = ks[k] := by simp [List.getD_eq_getElem?_getD, hk]
    rw [hg]
    have hv : vs.getD k Value.none = v := by simp [List.getD_eq_getElem?_getD, h1]
    rw [hv]
    unfold keyD at h2
    cases h2 using Rp.elimTup with
    | @tup a xs n _ e r =>
      generalize hxl : xs.toList = xl at r
      cases r using RpL.elimCons with
      | cons r1 r2 => cases r1; cases r2 using RpL.elimCons with
        | cons r3 r4 => cases r3; cases r4; exact ⟨a, xs, n, _, _, rfl, e, hxl⟩
  obtain ⟨a, xs, n, t, u, e1, e2, e3⟩ := item i hi
  obtain ⟨b, ys, m, t', u', f1, f2, f3⟩ := item j hj
  unfold kas_ask
  rw [e1, f1]
  refine PySem.W.kat_lt e2 rfl f2 rfl ?_
  have hz : xs.toList.zip ys.toList = [(.int (ks.getD i (0, ⟨#[]⟩)).1 t, .int (ks.getD j (0, ⟨#[]⟩)).1 t'), (.str (ks.getD i (0, ⟨#[]⟩)).2 u, .str (ks.getD j (0, ⟨#[]⟩)).2 u')] := by rw [e3, f3]; rfl
  rw [hz]
  unfold keyLt at h
  refine PySem.W.kat_cons (wpAny_eqBool_int (PySem.W.kat_go (fun hq => ?_) fun hq => ?_))
  · have hq' : (ks.getD i (0, ⟨#[]⟩)).1 = (ks.getD j (0, ⟨#[]⟩)).1 := by simpa using hq
    rw [if_pos hq'] at h
    refine PySem.W.kat_yes (PySem.W.kat_cons (wpAny_eqBool_str (PySem.W.kat_go (fun hs => ?_) fun hs => ?_)))
    · refine PySem.W.kat_yes (PySem.W.kat_nil ?_)
      have hs' : (ks.getD i (0, ⟨#[]⟩)).2 = (ks.getD j (0, ⟨#[]⟩)).2 := by simpa using hs
      rw [hs'] at h
      have z : decide (xs.size < ys.size) = false := by
        have l1 : xs.size = 2 := by rw [← Array.length_toList, e3]; rfl
        have l2 : ys.size = 2 := by rw [← Array.length_toList, f3]; rfl
        rw [l1, l2]; rfl
      rw [z]
      have z2 : decide ((ks.getD j (0, ⟨#[]⟩)).2.cps.toList < (ks.getD j (0, ⟨#[]⟩)).2.cps.toList) = false := decide_eq_false (List.lt_irrefl _)
      rw [z2] at h
      exact h
    · refine PySem.W.kat_no (PySem.W.kat_one _ _ (PyProof.Rows.lt_str ?_))
      exact h
  · have hq' : ¬ (ks.getD i (0, ⟨#[]⟩)).1 = (ks.getD j (0, ⟨#[]⟩)).1 := by simpa using hq
    rw [if_neg hq'] at h
    exact PySem.W.kat_no (oneLt_int h)

theorem tups_of {w : World} {μ : Addr → Prop} {h' : Heap} : ∀ {ks : List (Int × Str)} {vl : List Value}, RpL w μ h' vl (ks.map keyD) → ∃ fs, PySem.W.KatTups h' vl fs ∧ fs.length = ks.length ∧ ∀ v ∈ fs, ∃ i u, v = .int i u
  | [], _, .nil => ⟨[], trivial, rfl, fun v hv => nomatch hv⟩
  | d :: ds, _ :: _, .cons r1 r2 => by
    obtain ⟨fs, h1, h2, h3⟩ := tups_of r2
    unfold keyD at r1
    cases r1 using Rp.elimTup with
    | @tup b xs k nb eb rr =>
      generalize hxl : xs.toList = xl at rr
      cases rr using RpL.elimCons with
      | cons r1 r2 => cases r1 using Rp.elimInt with
        | int u =>
          refine ⟨.int d.1 u :: fs, ⟨⟨b, _, xs, k, rfl, eb, rfl, rfl, ?_⟩, h1⟩, by simp [h2], fun v hv => ?_⟩
          · rw [← Array.getElem?_toList, hxl]; rfl
          · rcases List.mem_cons.mp hv with rfl | hv
            · exact ⟨_, _, rfl⟩
            · exact h3 v hv

theorem Op1.sorted {ks : List (Int × Str)} (h2 : 2 ≤ ks.length) (h64 : ks.length < 64) (hin : kasIn ks.length (fun i j => keyLt (ks.getD i (0, ⟨#[]⟩)) (ks.getD j (0, ⟨#[]⟩))) (kas_sort ks.length))
    (hperm : ∀ i ∈ (kasRun (fun i j => keyLt (ks.getD i (0, ⟨#[]⟩)) (ks.getD j (0, ⟨#[]⟩))) (kas_sort ks.length)).toList, i < ks.length) :
    Op1 c ρ (fun v => call (.builtin "sorted") [v]) (isD c.w (.lst (ks.map keyD))) (isD c.w (.lst (((kasRun (fun i j => keyLt (ks.getD i (0, ⟨#[]⟩)) (ks.getD j (0, ⟨#[]⟩))) (kas_sort ks.length)).toList.map fun i => ks.getD i (0, ⟨#[]⟩)).map keyD))) := fun μ s v t r => by
  cases r using Rp.elimLst with
  | @lst a vs n ha e r =>
  have hl : s.heap.IsList a vs.toList.toArray := by rw [Array.toArray_toList]; exact ⟨_, e, rfl, n, rfl⟩
  have hlen : vs.toList.length = ks.length := by rw [r.length, List.length_map]
  obtain ⟨mg, hmg, _⟩ := t.g.glob
  obtain ⟨mb, hmb, _⟩ := t.g.blt
  have key := wp_led (M := model PG c.w) (A := c.A) (t := call (.builtin "sorted") [.ref a]) (s := s) (L1 := 3) (L2 := builtinsNs) (E := NoE)
    (P := fun v s' => ∃ Da hh, v = .ref Da ∧ s' = { s with heap := hh } ∧ ¬ μ Da ∧ ∃ cc, hh.get? Da = some (lstO ((kasRun (fun i j => keyLt (ks.getD i (0, ⟨#[]⟩)) (ks.getD j (0, ⟨#[]⟩))) (kas_sort ks.length)).toList.map fun i => vs.toList.getD i Value.none).toArray cc)) hmg hmb (by decide) (fun L m Fm Nm => ?_)
  · refine wpAny_mono key (fun v s' q => ?_) fun _ _ z => z
    obtain ⟨⟨Da, hh, rfl, rfl, hD, cc, eD⟩, hk⟩ := q
    have x : Ext s { s with heap := hh } := Ext.of_keep (tk := s.toks) hk
    refine ⟨x, .lst hD eD ?_⟩
    have r' := RpL.ext t.mu72 x r
    show RpL c.w μ hh (_ : Array Value).toList _
    rw [List.toList_toArray, List.map_map]
    have : ∀ (l : List Nat), (∀ i ∈ l, i < ks.length) → RpL c.w μ hh (l.map fun i => vs.toList.getD i Value.none) (l.map (keyD ∘ fun i => ks.getD i (0, ⟨#[]⟩))) := by
      intro l
      induction l with
      | nil => intro _; exact .nil
      | cons i l ih =>
        intro hi
        refine .cons ?_ (ih fun j hj => hi j (List.mem_cons_of_mem _ hj))
        have hik := hi i List.mem_cons_self
        obtain ⟨u, h1, h2⟩ := r'.get (i := i) (d := keyD ks[i]) (by simp [hik])
        have e1 : vs.toList.getD i Value.none = u := by rw [List.getD_eq_getElem?_getD, h1]; rfl
        have e2 : ks.getD i (0, ⟨#[]⟩) = ks[i] := by simp [List.getD_eq_getElem?_getD, hik]
        show Rp c.w μ hh (vs.toList.getD i Value.none) (keyD (ks.getD i (0, ⟨#[]⟩)))
        rw [e1, e2]; exact h2
    exact this _ hperm
  · refine PySem.W.kat_sorted Fm Nm hl (by (first | lia | omega)) (by (first | lia | omega)) fun Da e1 h' F' N' hlt => ?_
    have hDL : Da ≠ L := (N' _ List.mem_cons_self).2.1
    have hkp : ∀ b o, b ≠ L → s.heap.get? b = some o → h'.get? b = some o := led_keep N' fun p hp => List.mem_cons_of_mem _ hp
    have nD : ¬ μ Da := fun z => by
      obtain ⟨o, eo⟩ := t.live _ z
      exact Nat.lt_irrefl _ (hlt _ (led_mem hDL eo))
    have tup_ne : ∀ (b : Addr) xs k, s.heap.get? b = some (tupO xs k) → b ≠ L := fun b xs k eb z => by
      subst z
      obtain ⟨o, cnt, e1, e2, e3, _⟩ := Fm.ns
      rw [eb] at e2; cases e2; cases e3
    have rl : ∀ {vs : List Value} {ds : List (Int × Str)}, RpL c.w μ s.heap vs (ds.map keyD) → RpL c.w μ h' vs (ds.map keyD) := by
      intro vs ds
      induction ds generalizing vs with
      | nil => intro r; cases r; exact .nil
      | cons d ds ih =>
        intro r
        cases r using RpL.elimCons with
        | cons r1 r2 =>
          refine .cons ?_ (ih r2)
          unfold keyD at r1 ⊢
          cases r1 using Rp.elimTup with
          | @tup b xs k nb eb rr =>
            refine .tup nb (hkp _ _ (tup_ne _ _ _ eb) eb) ?_
            generalize xs.toList = xl at rr ⊢
            cases rr using RpL.elimCons with
            | cons r1 r2 => cases r1; cases r2 using RpL.elimCons with
              | cons r3 r4 => cases r3; cases r4; exact .cons (.int _ _) (.cons (.str _ _) .nil)
    have r1 := rl r
    obtain ⟨fs, hkt, hfl, hint⟩ := tups_of r1
    refine PySem.W.kat_kind (s := { s with heap := h' }) (T := .type "int") hkt (by (first | lia | omega)) (fun v hv => ?_) rfl ?_
    · obtain ⟨i, u, rfl⟩ := hint v hv
      exact fun A Q E s' _ hq => wpAny_pure hq
    · rw [hlen]
      refine kas_wp (n := ks.length) (lt := fun i j => keyLt (ks.getD i (0, ⟨#[]⟩)) (ks.getD j (0, ⟨#[]⟩))) (fun i j C hi hj hC => kat_ask (s := { s with heap := h' }) r1 hi hj hC) _ _ hin ?_
      refine PySem.W.KasFin.intro F' N' (.head fun p hp => Nat.ne_of_lt (hlt p hp)) fun h2 cc F2 N2 => ⟨⟨Da, h2, rfl, rfl, nD, cc, (N2 _ List.mem_cons_self).1⟩, led_keep N2 fun p hp => List.mem_cons_of_mem _ hp⟩
end
end Mine
end

noncomputable section -- V3
open PySem PyProof.Rows
set_option maxRecDepth 100000
namespace Mine

section
variable {c : Cx} {ρ : Loc} {μ : Addr → Prop} {s s' : Shared} {Q : Out → Prop}

noncomputable def pinR (R : VP) (b : Addr) (o : Obj) : VP := fun μ h v => R μ h v ∧ h.get? b = some o
theorem pinR_stable {as : List Addr} {R : VP} {b : Addr} {o : Obj} (h : Stable as R) (hb : b ∈ as) : Stable as (pinR R b o) := fun μ μ' h1 h2 v hμ hk r =>
  ⟨h μ μ' h1 h2 v hμ hk r.1, hk _ _ (.inr hb) r.2⟩
theorem StM.pin {x : Str} {as : List Addr} {R : VP} {b : Addr} {o : Obj} (t : StM c μ ρ s) (hx : ρ x = some (.own as (pinR R b o))) : s.heap.get? b = some o := by
  obtain ⟨m, hn, hv⟩ := t.frame.var
  obtain ⟨_, v, _, r⟩ := hv x _ hx
  exact r.2
theorem W_weak {x : Str} {as : List Addr} {a : Addr} {R R' : VP} {ss : List Stmt} (hx : ρ x = some (.own as R)) (ha : a ∈ as) (hst : Stable as R') (hR : ∀ μ h v, R μ h v → R' μ h v) (hq : W c (upd ρ x (.own as R')) ss Q) : W c ρ ss Q := fun μ s t => by
  obtain ⟨t', mv⟩ := t.setOwn (h' := s.heap) (tk := s.toks) (R' := R') hx ha (fun _ _ _ e => e) (t.live a ((t.frame.own x _ hx).2.2 a ha).1) hst (fun v r => hR _ _ v r)
  exact wpAny_mono (hq _ s t') (fun _ _ e => e.trans mv) fun _ _ x => x
theorem W_pin {x : Str} {as : List Addr} {R : VP} {b : Addr} {ss : List Stmt} (hx : ρ x = some (.own as R)) (hb : b ∈ as) (hq : ∀ o, W c (upd ρ x (.own as (pinR R b o))) ss Q) : W c ρ ss Q := fun μ s t => by
  have hst : Stable as R := (t.frame.own x _ hx).1
  obtain ⟨o, ho⟩ := t.live b ((t.frame.own x _ hx).2.2 b hb).1
  obtain ⟨t', mv⟩ := t.setOwn (h' := s.heap) (tk := s.toks) (R' := pinR R b o) hx hb (fun _ _ _ e => e) ⟨o, ho⟩ (pinR_stable hst hb) (fun v r => ⟨r, ho⟩)
  exact wpAny_mono (hq o _ s t') (fun _ _ e => e.trans mv) fun _ _ x => x

theorem X_forK {Q : Out → Prop} {x y : Str} {px pos : Pos} {iter : Expr} {body : List Stmt} {b : Addr} {o : Obj} {l2 : List (Str × D)} (J : Nat → Loc → Prop) (h1 : EvV c ρ iter (odR c.w b l2)) (hx : Storable c x) (h0 : J 0 ρ) (hB : Big b)
    (hpin : ∀ i ρ', J i ρ' → ∃ as R, ρ' y = some (.own as (pinR R b o)))
    (step : ∀ i p ρ' g, l2[i]? = some p → J i ρ' → W (c.guard g) (upd ρ' x (.fz (.str p.1))) body (Turn (J (i + 1)) Q))
    (done : ∀ ρ', J l2.length ρ' → Q (.next ρ')) (hs : ∀ v, foldedSetIterable iter c.env v = pure v := by intro _; rfl) : X c ρ (.For (.Name x px) iter body [] pos) Q := fun μ s t => by
  refine wpAny_For (wpAny_mono (h1 μ s t) (fun v s₁ q1 => ?_) fun _ _ x => x) hs
  have t1 := t.ext q1.1
  obtain ⟨q1a, rfl, kvs, e, r⟩ := q1
  have ob : s₁.heap.get? b = some o := by
    obtain ⟨as, R, hy⟩ := hpin 0 ρ h0
    exact t1.pin hy
  obtain ⟨ep, e'⟩ := e.dictAt
  have hltb : b < s₁.heap.objs.size := Heap.lt_size ob
  have hneb : b ≠ s₁.heap.objs.size := Nat.ne_of_lt hltb
  have hsy : (b == sysModules) = false := by rw [beq_eq_false_iff_ne]; exact Nat.ne_of_gt (Nat.lt_of_lt_of_le (by decide) hB)
  have hlen : kvs.length = l2.length := by rw [r.length]
  have q0 : wpAny (model PG c.w) c.A (pyIter (.ref b)) (fun it s' => Ext s₁ s' ∧ ∃ I Sx, it = .ref I ∧ Walks PG c.w c.A I [I, b] [I] l2.length (fun i v => ∃ k x, kvs[i]? = some (k, x) ∧ (strKind PG c.w).is k v = true) Sx ∧ Sx 0 s'.heap ∧
      s₁.heap.objs.size ≤ I ∧ (∀ i h, Sx i h → ∃ o, h.get? I = some o) ∧ s'.heap.get? b = some o) NoE s₁ :=
    wpAny_pyIter_dict hsy e' ⟨Ext.push s₁ _ s₁.toks, _, _, rfl, Walks_len (Walks.dictKeys t.room.1 _ b hneb kvs ep) hlen, ⟨⟨_, Heap.get?_push_size _ rfl, rfl, rfl⟩, e'.push _⟩, Nat.le_refl _, (fun _ _ q => let ⟨o, e, _⟩ := q.1; ⟨o, e⟩), Heap.get?_push_of_some _ ob⟩
  refine wpAny_mono q0 (fun it s₂ q2 => ?_) fun _ _ x => x
  obtain ⟨hE, I, Sx, rfl, Wk, hS, hI1, hIl, ob2⟩ := q2
  have hneI : b ≠ I := fun z => Nat.not_lt.mpr hI1 (z ▸ hltb)
  have hIfp : I ∉ c.fp := fun z => by
    have : μ I := by
      rcases List.mem_cons.mp z with e | z
      · exact e ▸ t.frame.muL
      · obtain ⟨q, hq, e⟩ := List.mem_map.mp z; exact e ▸ t.frame.cellsM q hq
    exact Nat.not_lt.mpr hI1 (t1.lt I this)
  have hI72 : I ≠ 72 := fun e => Nat.not_lt.mpr hI1 (t1.lt I (e ▸ t.mu72))
  have hIown : ∀ y l, ρ y = some l → I ∉ l.adr := fun y l e z => Nat.not_lt.mpr hI1 (t1.lt I ((t.frame.own y l e).2.2 I z).1)
  have hIb : c.s₀.heap.objs.size ≤ I := Nat.le_trans t1.size hI1
  have hIB : Big I := Nat.le_trans t1.g.size hI1
  have t2 : StM c (fun b => μ b ∨ b = I) ρ s₂ := t1.grow hE hI1 (hIl 0 _ hS)
  have t2g : StM (c.guard I) (fun b => μ b ∨ b = I) ρ s₂ := t2.guard (.inr rfl) hI72 hIfp hIown
  have mv2 : Mv c μ (fun b => μ b ∨ b = I) s s₂ := (t.mv q1a).trans (.grow t1 hE hI1)
  have hprI : ¬ c.pr I := fun z => Nat.not_lt.mpr hI1 (t1.lt I (t1.prM I z))
  have h0I : ¬ c.μ₀ I := fun z => Nat.not_lt.mpr hI1 (t1.lt I (t1.mu0 I z))
  refine codeAny_forLoop (fun n s' => ∃ μ' ρ' i, StM (c.guard I) μ' ρ' s' ∧ J i ρ' ∧ Sx i s'.heap ∧ Mv c (fun b => μ b ∨ b = I) μ' s₂ s' ∧ i ≤ l2.length ∧ n = l2.length + 1 - i) ?_ (l2.length + 1)
    ⟨_, ρ, 0, t2g, h0, hS, .refl, Nat.zero_le _, rfl⟩
  rintro n s' ⟨μ', ρ', i, t', hJ, hSx, mv, hi, rfl⟩
  have hμI : μ' I := t'.prM I (.inr rfl)
  have hown' : ∀ y l, ρ' y = some l → I ∉ l.adr := fun y l e z => ((t'.frame.own y l e).2.2 I z).2.2.1 (.inr rfl)
  have ob' : s'.heap.get? b = some o := by
    obtain ⟨as, R, hy⟩ := hpin i ρ' hJ
    exact t'.pin hy
  by_cases hlt : i < l2.length
  · refine Wk.item i s' _ _ hlt hSx fun v h' tk hP hS' hk => ?_
    have hk' : ∀ b o, b ≠ I → s'.heap.get? b = some o → h'.get? b = some o := fun b o n e => hk b o (fun z => n (List.mem_singleton.mp z)) e
    have t3 : StM (c.guard I) μ' ρ' { s' with heap := h', toks := tk } := t'.poke hμI hk' (hIl _ _ hS') hIb hIB hIfp hown'
    have mv3 : Mv c (fun b => μ b ∨ b = I) μ' s₂ { s' with heap := h', toks := tk } := mv.trans ⟨fun b o n e => hk' b o (by rintro rfl; exact n.elim (fun n => n hμI) hprI) e, fun _ _ _ n => n⟩
    have hd : l2[i]? = some l2[i] := by simp [hlt]
    have hr : Rp c.w μ' h' v (.str l2[i].1) := by
      obtain ⟨k, z, hk, hu⟩ := hP
      obtain ⟨tk, rfl⟩ := Value.isStrOf_shape hu
      have h1 : (kvs.map (·.1))[i]? = some k := by rw [List.getElem?_map, hk]; rfl
      rw [r.keys, List.getElem?_map, hd] at h1
      cases h1; exact .str _ _
    refine wpAny_assign_Name (wpAny_mono (wp_store (c := c.guard I) (R := fun _ s4 => StM (c.guard I) μ' (upd ρ' x (.fz (.str l2[i].1))) s4 ∧ Mv (c.guard I) μ' μ' { s' with heap := h', toks := tk } s4) t3 hx .fz hr fun s4 a b => ⟨a, b⟩) (fun _ s4 q => ?_) fun _ _ z => z.elim)
    obtain ⟨t4, mv4⟩ := q
    refine wpAny_mono (step i l2[i] ρ' I hd hJ μ' s4 t4) (fun f s5 q => ?_) fun _ _ z => z.elim
    obtain ⟨oo, μ5, q, r, mv5⟩ := q
    have mv35 : Mv (c.guard I) μ' μ5 { s' with heap := h', toks := tk } s5 := mv4.trans mv5
    have mvT : Mv c (fun b => μ b ∨ b = I) μ5 s₂ s5 := mv3.trans mv35.unguard
    have hS5 : s5.heap.get? b = some o → Sx (i + 1) s5.heap := fun ob5 => Wk.frame _ _ _ hS' fun q hq oo e => by
      rcases List.mem_cons.mp hq with rfl | hq
      · exact mv35.frz q oo (.inr (.inr rfl)) e
      · rw [List.mem_singleton.mp hq] at e ⊢
        rw [hk' b o hneI ob'] at e; cases e; exact ob5
    have pin5 : ∀ ρ'', StM (c.guard I) μ5 ρ'' s5 → J (i + 1) ρ'' → s5.heap.get? b = some o := fun ρ'' t5 hJ5 => by
      obtain ⟨as, R, hy⟩ := hpin _ ρ'' hJ5
      exact t5.pin hy
    cases oo with
    | next ρ'' => obtain ⟨rfl, r⟩ := r; exact ⟨l2.length + 1 - (i + 1), by (first | lia | omega), μ5, ρ'', i + 1, r, q, hS5 (pin5 ρ'' r q), mvT, hlt, rfl⟩
    | cont ρ'' => obtain ⟨rfl, r⟩ := r; exact ⟨l2.length + 1 - (i + 1), by (first | lia | omega), μ5, ρ'', i + 1, r, q, hS5 (pin5 ρ'' r q), mvT, hlt, rfl⟩
    | brk ρ'' => obtain ⟨rfl, r⟩ := r; exact ⟨_, μ5, q, ⟨rfl, r.unguard⟩, mv2.trans mvT⟩
    | ret d ρ'' => obtain ⟨v, rfl, r, rr⟩ := r; exact ⟨_, μ5, q, ⟨v, rfl, r.unguard, rr⟩, mv2.trans mvT⟩
  · have hin : i = l2.length := by (first | lia | omega)
    subst hin
    refine Wk.done s' _ _ hSx fun h' tk hk => ?_
    have hk' : ∀ b o, b ≠ I → s'.heap.get? b = some o → h'.get? b = some o := fun b o n e => hk b o (fun z => n (List.mem_singleton.mp z)) e
    have t3 : StM c (fun b => μ' b ∧ b ≠ I) ρ' { s' with heap := h', toks := tk } := t'.unguard.pokeDrop hμI hk' hIb hIB hIfp hown' h0I hprI
    have mv3 : Mv c (fun b => μ b ∨ b = I) (fun b => μ' b ∧ b ≠ I) s₂ { s' with heap := h', toks := tk } := mv.trans ⟨fun b o n e => hk' b o (by rintro rfl; exact n.elim (fun n => n hμI) hprI) e, fun _ _ _ n z => n z.1⟩
    exact wpAny_execs_nil ⟨_, _, done ρ' hJ, ⟨rfl, t3⟩, mv2.trans mv3⟩
theorem W_forK {Q : Out → Prop} {x y : Str} {px pos : Pos} {iter : Expr} {body rest : List Stmt} {b : Addr} {o : Obj} {l2 : List (Str × D)} (J : Nat → Loc → Prop) (h1 : EvV c ρ iter (odR c.w b l2)) (hx : Storable c x) (h0 : J 0 ρ) (hB : Big b)
    (hpin : ∀ i ρ', J i ρ' → ∃ as R, ρ' y = some (.own as (pinR R b o)))
    (step : ∀ i p ρ' g, l2[i]? = some p → J i ρ' → W (c.guard g) (upd ρ' x (.fz (.str p.1))) body (Turn (J (i + 1)) (After c rest Q)))
    (done : ∀ ρ', J l2.length ρ' → W c ρ' rest Q) (hs : ∀ v, foldedSetIterable iter c.env v = pure v := by intro _; rfl) : W c ρ (.For (.Name x px) iter body [] pos :: rest) Q :=
  W_cons (X_forK (y := y) J h1 hx h0 hB hpin step done hs)

theorem wp_dict1 {ke ve : Expr} {pos : Pos} {k : Str} {d : D} {R : Value → Shared → Prop} (t : StM c μ ρ s) (hk : Ev c ρ ke (.str k)) (hv : Ev c ρ ve d)
    (h : ∀ a s' kvs, Ext s s' → a = s.heap.objs.size → s'.heap.DictOf (strKind PG c.w) a kvs → RpK c.w (fun b => μ b ∨ b = a) s'.heap kvs [(k, d)] → R (.ref a) s') : wpAny (model PG c.w) c.A (eval (.Dict [some ke] [ve] pos) c.env) R NoE s := by
  refine wpAny_Dict_walk (knd := strKind PG c.w) rfl rfl (by simp) (by simp) ?_
  have x1 := Ext.push s { cls := .type "dict", data := .dict #[] } s.toks
  have t1 := t.grow x1 (Nat.le_refl _) ⟨_, Heap.get?_push_size _ rfl⟩
  have d1 : ({ s with heap := s.heap.push { cls := .type "dict", data := .dict #[] } } : Shared).heap.DictOf (strKind PG c.w) s.heap.objs.size [] := ⟨_, #[], 0, Heap.get?_push_size _ rfl, ⟨rfl, rfl, rfl⟩, rfl, fun _ he => by simp at he, .nil, List.nodup_nil⟩
  refine pairTrees_cons_walk (wpAny_mono (hk _ _ t1) (fun kv s2 q2 => ?_) fun _ _ x => x)
  have t2 := t1.ext q2.1
  refine wpAny_mono (hv _ _ t2) (fun vv s3 q3 => ?_) fun _ _ x => x
  obtain ⟨q2a, q2b⟩ := q2
  cases q2b using Rp.elimStr with
  | str tk =>
    have x13 := q2a.trans q3.1
    have ne72 : s.heap.objs.size ≠ 72 := fun e => Nat.not_lt.mpr t.g.size (e ▸ by decide)
    have d3 : s3.heap.DictOf (strKind PG c.w) s.heap.objs.size [] := by
      obtain ⟨o, es, ep, ho, q⟩ := d1
      exact ⟨o, es, ep, x13.keep _ _ ho ne72, q⟩
    refine pairTrees_nil_walk ⟨[(k, vv)], ⟨isStr_key c.w k tk, rfl, trivial⟩, d3, fun h' hd' hs' => ?_⟩
    have xx : Ext s { s3 with heap := h', toks := s3.toks + 1 } := (x1.trans x13).poke (Nat.le_refl _) t.g.size fun b o n e => hs'.extBut b o n e
    refine h _ _ _ xx rfl hd' ?_
    refine .cons ?_ .nil
    exact q3.2.move (fun b o _ n z => n z) fun b o n e => hs'.extBut b o (fun z => n (.inr z)) e
theorem Ev_dict1 {ke ve : Expr} {pos : Pos} {k : Str} {d : D} (hk : Ev c ρ ke (.str k)) (hv : Ev c ρ ve d) : Ev c ρ (.Dict [some ke] [ve] pos) (.dct [(k, d)]) := fun μ s t =>
  wp_dict1 t hk hv fun a s' kvs x e hd r => by
    have hB : Big a := e ▸ t.g.size
    exact ⟨x, .dct (fresh_not t (Nat.le_of_eq e.symm)) (by rw [beq_eq_false_iff_ne]; exact Nat.ne_of_gt (Nat.lt_of_lt_of_le (by decide) hB)) hd (r.move (fun b o _ n z => n (.inl z)) fun _ _ _ e => e)⟩
theorem Ev_dict0 {pos : Pos} : Ev c ρ (.Dict [] [] pos) (.dct []) := fun μ s t => by
  refine wpAny_Dict_empty ⟨Ext.push s _ s.toks, ?_⟩
  refine .dct (fresh_not t (Nat.le_refl _)) (by rw [beq_eq_false_iff_ne]; exact Nat.ne_of_gt (Nat.lt_of_lt_of_le (by decide) t.g.size)) (kvs := []) ?_ .nil
  exact ⟨_, #[], 0, Heap.get?_push_size _ rfl, ⟨rfl, rfl, rfl⟩, rfl, fun _ he => by simp at he, .nil, List.nodup_nil⟩
end
end Mine
end

noncomputable section -- V4
open PySem PyProof.Rows
set_option maxRecDepth 100000
namespace Mine

noncomputable def duR (w : World) (a b : Addr) (l : List (Str × D)) (k : Str) (l2 : List (Str × D)) : VP := fun μ h v =>
  v = .ref a ∧ (∃ kvs, h.DictOf (strKind PG w) a (kvs ++ [(k, .ref b)]) ∧ RpK w μ h kvs l) ∧ odR w b l2 μ h (.ref b)
noncomputable def daR (w : World) (a b : Addr) (l : List (Str × D)) (k : Str) : VP := fun μ h v => v = .ref a ∧ ∃ kvs, h.DictOf (strKind PG w) a (kvs ++ [(k, .ref b)]) ∧ RpK w μ h kvs l
theorem daR_stable {w : World} {a b : Addr} {l : List (Str × D)} {k : Str} : Stable [a] (daR w a b l k) := by
  rintro μ μ' h h' v hμ hk ⟨e, kvs, ⟨o, es, ep, ho, q⟩, r⟩
  exact ⟨e, kvs, ⟨o, es, ep, hk _ _ (.inr (by simp)) ho, q⟩, r.move hμ fun b o n e => hk b o (.inl n) e⟩
noncomputable def DU (w : World) (a b : Addr) (l : List (Str × D)) (k : Str) (l2 : List (Str × D)) : LV := .own [a, b] (duR w a b l k l2)
theorem duR_stable {w : World} {a b : Addr} {l l2 : List (Str × D)} {k : Str} : Stable [a, b] (duR w a b l k l2) := by
  rintro μ μ' h h' v hμ hk ⟨e, ⟨kvs, ⟨o, es, ep, ho, q⟩, r⟩, r2⟩
  exact ⟨e, ⟨kvs, ⟨o, es, ep, hk _ _ (.inr (by simp)) ho, q⟩, r.move hμ fun b o n e => hk b o (.inl n) e⟩, odR_stable μ μ' h h' _ hμ (fun c o n e => hk c o (n.imp (fun z => z) fun z => by rw [List.mem_singleton.mp z]; simp) e) r2⟩

theorem valueAt_last {kvs : List (Str × Value)} {k : Str} {v : Value} (h : valueAt kvs k = none) : valueAt (kvs ++ [(k, v)]) k = some v := by
  unfold valueAt at h ⊢
  rw [Option.map_eq_none_iff] at h
  rw [List.find?_append, h]; simp
theorem RpK.append' {w : World} {μ : Addr → Prop} {h : Heap} {vs us : List (Str × Value)} {ds es : List (Str × D)} (r : RpK w μ h vs ds) (q : RpK w μ h us es) : RpK w μ h (vs ++ us) (ds ++ es) := r.append q

section
variable {c : Cx} {ρ : Loc} {μ : Addr → Prop} {s s' : Shared} {Q : Out → Prop}

theorem StM.drop {x : Str} {as' dl : List Addr} {R R' : VP} (t : StM c μ ρ s) (hx : ρ x = some (.own (as' ++ dl) R)) (hS : ∀ b ∈ dl, ¬ c.S b) (hst : Stable as' R') (hR : ∀ v, R μ s.heap v → R' (fun b => μ b ∧ b ∉ dl) s.heap v) :
    StM c (fun b => μ b ∧ b ∉ dl) (upd ρ x (.own as' R')) s ∧ Mv c μ (fun b => μ b ∧ b ∉ dl) s s := by
  obtain ⟨hok, hndp, hown⟩ := t.frame.own x _ hx
  have hown' : ∀ a ∈ dl, μ a ∧ a ∉ c.fp ∧ ¬ c.pr a ∧ (c.s₀.heap.objs.size ≤ a ∨ c.S a) ∧ Big a := fun a ha => hown a (List.mem_append.mpr (.inr ha))
  have hb : ∀ a ∈ dl, c.s₀.heap.objs.size ≤ a := fun a ha => (hown' a ha).2.2.2.1.elim (fun z => z) fun z => absurd z (hS a ha)
  refine ⟨⟨t.room, t.g, t.keep, t.os, t.bare, fun a q => ⟨t.mu0 a q, fun ha => Nat.not_lt.mpr (hb a ha) (t.mu0lt a q)⟩, t.mu0lt, fun a q => t.mu1 a q.1, fun a q => t.live a q.1, ⟨t.mu72, fun ha => absurd (hown' _ ha).2.2.2.2 (by decide)⟩,
    fun a q => t.ge a q.1, t.pr72, fun a q => ⟨t.prM a q, fun ha => (hown' a ha).2.2.1 q⟩, ?_⟩, ⟨fun _ _ _ e => e, fun _ _ _ n z => n z.1⟩⟩
  have f := t.frame
  have hfp : ∀ a ∈ c.fp, μ a ∧ a ∉ dl := fun a ha => ⟨t.fpM a ha, fun z => (hown' a z).2.1 ha⟩
  have hnd : as'.Nodup ∧ dl.Nodup ∧ ∀ a ∈ as', ∀ b ∈ dl, a ≠ b := by
    have : (as' ++ dl).Nodup := hndp
    rwa [List.nodup_append] at this
  refine ⟨f.kind, f.glob, f.blt, hfp _ List.mem_cons_self, f.baseL, fun p hp => hfp _ (List.mem_cons_of_mem _ (List.mem_map.mpr ⟨p, hp, rfl⟩)), f.cells, f.cellK, f.apart, f.cellsL, f.big, f.prL, ?_, ?_, ?_⟩
  · obtain ⟨m, hn, hv⟩ := f.var
    refine ⟨m, hn, fun y l e => ?_⟩
    unfold upd at e
    by_cases hy : y = x
    · rw [if_pos hy] at e; cases e; subst hy
      obtain ⟨ok, u, va, r⟩ := hv y _ hx
      exact ⟨ok, u, va, hR u r⟩
    · rw [if_neg hy] at e
      obtain ⟨ok, u, va, r⟩ := hv y l e
      exact ⟨ok, u, va, r.keep (f.own y l e).1 (fun _ _ _ n z => n z.1) fun _ _ _ e => e⟩
  · intro y l e
    unfold upd at e
    by_cases hy : y = x
    · rw [if_pos hy] at e; cases e
      exact ⟨hst, hnd.1, fun a ha => let ⟨p, q⟩ := hown a (List.mem_append.mpr (.inl ha)); ⟨⟨p, fun z => hnd.2.2 a ha a z rfl⟩, q⟩⟩
    · rw [if_neg hy] at e
      obtain ⟨h1, h2, h3⟩ := f.own y l e
      exact ⟨h1, h2, fun a ha => ⟨⟨(h3 a ha).1, fun z => f.sep x y _ l hx e (fun q => hy q.symm) a (List.mem_append.mpr (.inr z)) ha⟩, (h3 a ha).2⟩⟩
  · intro y z k j ey ez hne b hb'
    unfold upd at ey ez
    by_cases hy : y = x
    · rw [if_pos hy] at ey; cases ey
      rw [if_neg (fun e => hne (hy.trans e.symm))] at ez
      exact f.sep x z _ j hx ez (fun e => hne (hy.trans e)) b (List.mem_append.mpr (.inl hb'))
    · rw [if_neg hy] at ey
      by_cases hz : z = x
      · rw [if_pos hz] at ez; cases ez; intro h
        exact f.sep y x k _ ey hx hy b hb' (List.mem_append.mpr (.inl h))
      · rw [if_neg hz] at ez
        exact f.sep y z k j ey ez hne b hb'

theorem W_dropDU {x : Str} {a b : Addr} {l l2 : List (Str × D)} {k : Str} {ss : List Stmt} (hx : ρ x = some (DU c.w a b l k l2)) (hq : W c (upd ρ x (OD c.w a (l ++ [(k, .dct l2)]))) ss Q) (hS : ¬ c.S b := by exact fun h => h.elim) : W c ρ ss Q := fun μ s t => by
  obtain ⟨_, hnd, hown⟩ := t.frame.own x _ hx
  have hbig : Big b := (hown b (by simp [DU, LV.adr])).2.2.2.2
  have hab : a ≠ b := by
    have : [a, b].Nodup := hnd
    simpa using this
  obtain ⟨t', mv⟩ := t.drop (as' := [a]) (dl := [b]) (R' := odR c.w a (l ++ [(k, .dct l2)])) hx (by intro z hz; rw [List.mem_singleton.mp hz]; exact hS) odR_stable fun v r => by
    obtain ⟨rfl, ⟨kvs, hd, hr⟩, _, kvs2, hd2, hr2⟩ := r
    refine ⟨rfl, _, hd, RpK.append' (hr.move (fun b o _ n z => n z.1) fun _ _ _ e => e) (.cons ?_ .nil)⟩
    refine .dct (fun z => z.2 (by simp)) ?_ hd2 (hr2.move (fun b o _ n z => n z.1) fun _ _ _ e => e)
    rw [beq_eq_false_iff_ne]; exact Nat.ne_of_gt (Nat.lt_of_lt_of_le (by decide) hbig)
  exact wpAny_mono (hq _ s t') (fun _ _ e => e.trans mv) fun _ _ x => x

theorem W_setNew {x : Str} {p q dp pos : Pos} {ie ke ve : Expr} {a : Addr} {l : List (Str × D)} {k k2 : Str} {d : D} {rest : List Stmt} (hx : ρ x = some (OD c.w a l)) (hk2 : Ev c ρ ke (.str k2)) (hv : Ev c ρ ve d) (hk : Ev c ρ ie (.str k)) (hl : lookD l k = none) (hz : l.length ≤ 1000)
    (hq : ∀ b, Big b → W c (upd ρ x (DU c.w a b l k [(k2, d)])) rest Q) (hs : swapsWith (.Dict [some ke] [ve] dp) (some (.Subscript (.Name x p) ie q)) pos.line c.env = pure false := by rfl) :
    W c ρ (.Assign [.Subscript (.Name x p) ie q] (.Dict [some ke] [ve] dp) pos :: rest) Q := W_cons fun μ s t => by
  refine wpAny_Assign_Subscript (wp_dict1 t hk2 hv fun b s1 kvb x1 eb hdb hrb => ?_) hs
  have hb1 : s.heap.objs.size ≤ b := Nat.le_of_eq eb.symm
  have t1 := t.grow x1 hb1 (let ⟨o, _, _, ho, _⟩ := hdb; ⟨o, ho⟩)
  have mv1 := Mv.grow (c := c) t x1 hb1
  have nμb : ¬ μ b := fresh_not t hb1
  have hbB : Big b := Nat.le_trans t.g.size hb1
  refine wpAny_mono (EvV_name hx _ s1 t1) (fun o s2 q2 => ?_) fun _ _ x => x
  have t2 := t1.ext q2.1
  refine wpAny_mono (hk _ s2 t2) (fun i s3 q3 => ?_) fun _ _ x => x
  have t3 := t2.ext q3.1
  have ho := SP.lv (c := c) hx _ s2 s3 o t2 q3.1 q2.2
  obtain ⟨rfl, kvs, hd, hr⟩ := ho
  obtain ⟨q3a, q3b⟩ := q3
  have ne72 : b ≠ 72 := fun e => absurd (e ▸ hbB) (by decide)
  have hdb3 : s3.heap.DictOf (strKind PG c.w) b kvb := by
    obtain ⟨o, es, ep, ho, q⟩ := hdb
    exact ⟨o, es, ep, (q2.1.trans q3a).keep _ _ ho ne72, q⟩
  have hrb3 : RpK c.w (fun z => μ z ∨ z = b) s3.heap kvb [(k2, d)] := RpK.ext t1.mu72 (q2.1.trans q3a) hrb
  have hμa : μ a := ((t.frame.own x _ hx).2.2 a (by simp [OD, LV.adr])).1
  have hba : b ≠ a := fun e => nμb (e ▸ hμa)
  cases q3b using Rp.elimStr with
  | str tk =>
    refine wpAny_setItem_pairs (isStr_key c.w k tk) hd (fun h' hd' hs' => ?_) (by rw [hr.length, sizeLine_eq]; (first | lia | omega))
    rw [stored_absent (hr.lookNone hl)] at hd'
    have kp : ∀ z o, ¬ (μ z ∨ z = b) → s3.heap.get? z = some o → h'.get? z = some o := fun z o n e => hs'.extBut z o (fun w => n (.inl (w ▸ hμa))) e
    obtain ⟨t4, mv4⟩ := t3.setOwn (tk := s3.toks + 1) (R' := daR c.w a b l k) hx (by simp) (fun b o n e => hs'.extBut b o n e) (let ⟨o, _, _, ho, _⟩ := hd'; ⟨o, ho⟩) daR_stable fun u hu => by
      exact ⟨hu.1, kvs, hd', RpK.keep (fun _ n => n) kp hr⟩
    have t5 := t4.extend (x := x) (p := b) (as := [a]) (R := daR c.w a b l k) (R' := duR c.w a b l k [(k2, d)]) (by simp [upd]) (.inr rfl) (by simpa using hba) (fun z => nμb (t.fpM b z)) (fun z => nμb (t.prM b z)) (Nat.le_trans t.size hb1) hbB (fun y m e n z => by
        simp only [upd, if_neg n] at e
        exact nμb ((t.frame.own y m e).2.2 b z).1) duR_stable (fun u hu => ⟨hu.1, hu.2, rfl, kvb, by
          obtain ⟨o, es, ep, ho, q⟩ := hdb3
          exact ⟨o, es, ep, hs'.extBut _ _ hba ho, q⟩, RpK.keep (fun _ n => n) kp hrb3⟩)
    have t6 : StM c (fun z => μ z ∨ z = b) (upd ρ x (DU c.w a b l k [(k2, d)])) { heap := h', gens := s3.gens, drawn := s3.drawn, toks := s3.toks + 1, os := s3.os } := by
      have e : upd (upd ρ x (.own [a] (daR c.w a b l k))) x (.own ([a] ++ [b]) (duR c.w a b l k [(k2, d)])) = upd ρ x (DU c.w a b l k [(k2, d)]) := by
        funext y; unfold upd; by_cases hy : y = x
        · rw [if_pos hy, if_pos hy]; rfl
        · rw [if_neg hy, if_neg hy, if_neg hy]
      rw [← e]; exact t5
    exact ⟨Out.next _, _, hq b hbB, ⟨rfl, t6⟩, mv1.trans ((t1.mv (q2.1.trans q3a)).trans mv4)⟩

theorem Op2.itemDU {value slice : Expr} {a b : Addr} {l l2 : List (Str × D)} {k : Str} (hs : noSlice slice = true) (hl : lookD l k = none) : Op2 c ρ (fun o i => subscriptTail value slice o i) (duR c.w a b l k l2) (isD c.w (.str k)) (odR c.w b l2) := fun μ s v u t r r' => by
  cases r' using Rp.elimStr with
  | str tk =>
    obtain ⟨rfl, ⟨kvs, e, r⟩, r2⟩ := r
    refine tail_any e.typeIs slot_dict_getitem.lookup (wpAny_getItem_of (knd := strKind PG c.w) (k := k) (isStr_key c.w k tk) e.mapOf (valueAt_last (r.lookNone hl)) ⟨Ext.toks s _, ?_⟩) (sub_plain hs _ _)
    exact r2
theorem EvV_itemDU {x : Str} {np pos : Pos} {ie : Expr} {a b : Addr} {l l2 : List (Str × D)} {k : Str} (hx : ρ x = some (DU c.w a b l k l2)) (hi : Ev c ρ ie (.str k)) (hl : lookD l k = none) (hs : noSlice ie = true := by rfl) : EvV c ρ (.Subscript (.Name x np) ie pos) (odR c.w b l2) :=
  EvV_sub (P1 := duR c.w a b l k l2) (EvV_name hx) hi (SP.lv hx) (.itemDU hs hl)
theorem EvV_itemDUp {x : Str} {np pos : Pos} {ie : Expr} {a b z : Addr} {o : Obj} {l l2 : List (Str × D)} {k : Str} (hx : ρ x = some (.own [a, b] (pinR (duR c.w a b l k l2) z o))) (hi : Ev c ρ ie (.str k)) (hl : lookD l k = none) (hs : noSlice ie = true := by rfl) : EvV c ρ (.Subscript (.Name x np) ie pos) (odR c.w b l2) :=
  EvV_sub (P1 := duR c.w a b l k l2) ((EvV_name hx).mono fun _ _ _ r => r.1) hi (fun μ s s' v t x r => by
    refine duR_stable μ μ s.heap s'.heap v (fun _ _ _ n => n) (fun q oo n e => x.keep q oo e ?_) r
    rintro rfl
    rcases n with n | n
    · exact n t.mu72
    · exact absurd ((t.frame.own _ _ hx).2.2 _ n).2.2.2.2 (by decide)) (.itemDU hs hl)
theorem Ev_item2 {ve je : Expr} {pos : Pos} {b : Addr} {l2 : List (Str × D)} {k : Str} {d : D} {x : Str} {as : List Addr} {R : VP} (hx : ρ x = some (.own as R)) (hb : b ∈ as) (h1 : EvV c ρ ve (odR c.w b l2)) (hi : Ev c ρ je (.str k)) (hd : lookD l2 k = some d) (hs : noSlice je = true := by rfl) : Ev c ρ (.Subscript ve je pos) d :=
  EvV_sub (P1 := odR c.w b l2) h1 hi (fun μ s s' v t x r => by
    refine odR_stable μ μ s.heap s'.heap v (fun _ _ _ n => n) (fun q oo n e => x.keep q oo e ?_) r
    rintro rfl
    rcases n with n | n
    · exact n t.mu72
    · exact absurd ((t.frame.own _ _ hx).2.2 _ hb).2.2.2.2 (by rw [← List.mem_singleton.mp n]; decide)) (.itemOD hs hd)

theorem W_setDU {x : Str} {p q q2 pos : Pos} {ie je e : Expr} {a b : Addr} {l l2 : List (Str × D)} {k j : Str} {d : D} {rest : List Stmt} (hx : ρ x = some (DU c.w a b l k l2)) (h : Ev c ρ e d) (hk : Ev c ρ ie (.str k)) (hj : Ev c ρ je (.str j)) (hl : lookD l k = none) (hz : l2.length ≤ 1000)
    (hq : W c (upd ρ x (DU c.w a b l k (putD l2 j d))) rest Q) (hs : swapsWith e (some (.Subscript (.Subscript (.Name x p) ie q2) je q)) pos.line c.env = pure false := by rfl) (hsl : noSlice ie = true := by rfl) : W c ρ (.Assign [.Subscript (.Subscript (.Name x p) ie q2) je q] e pos :: rest) Q := W_cons fun μ s t => by
  refine wpAny_Assign_Subscript (wpAny_mono (h μ s t) (fun v s1 q1 => ?_) fun _ _ x => x) hs
  have t1 := t.ext q1.1
  refine wpAny_mono (EvV_itemDU hx hk hl hsl μ s1 t1) (fun o s2 q2 => ?_) fun _ _ x => x
  have t2 := t1.ext q2.1
  refine wpAny_mono (hj μ s2 t2) (fun i s3 q3 => ?_) fun _ _ x => x
  have t3 := t2.ext q3.1
  have hv : Rp c.w μ s3.heap v d := Rp.ext t.mu72 q3.1 (Rp.ext t.mu72 q2.1 q1.2)
  obtain ⟨q2a, rfl, _⟩ := q2
  obtain ⟨m, hn, hvar⟩ := t3.frame.var
  obtain ⟨_, u, _, hu⟩ := hvar x _ hx
  obtain ⟨_, ⟨kva, hda, hra⟩, _, kvs, hd, hr⟩ := hu
  obtain ⟨hnd, hown⟩ := (t.frame.own x _ hx).2
  have hμb := (hown b (by simp [DU, LV.adr])).1
  have hμa := (hown a (by simp [DU, LV.adr])).1
  have hab : a ≠ b := by
    have : [a, b].Nodup := hnd
    simpa using this
  obtain ⟨q3a, q3b⟩ := q3
  cases q3b using Rp.elimStr with
  | str tk =>
    refine wpAny_setItem_pairs (isStr_key c.w j tk) hd (fun h' hd' hs' => ?_) (by rw [hr.length, sizeLine_eq]; (first | lia | omega))
    have kp : ∀ z o, ¬ μ z → s3.heap.get? z = some o → h'.get? z = some o := fun z o n e => hs'.extBut z o (fun w => n (w ▸ hμb)) e
    obtain ⟨t4, mv4⟩ := t3.setOwn (tk := s3.toks + 1) (R' := duR c.w a b l k (putD l2 j d)) hx (a := b) (by simp) (fun b o n e => hs'.extBut b o n e) (let ⟨o, _, _, ho, _⟩ := hd'; ⟨o, ho⟩) duR_stable fun u hu => by
      refine ⟨hu.1, ⟨kva, ?_, RpK.keep (fun _ n => n) kp hra⟩, rfl, _, hd', RpK.keep (fun _ n => n) kp (hr.put j hv)⟩
      obtain ⟨o, es, ep, ho, q⟩ := hda
      exact ⟨o, es, ep, hs'.extBut _ _ hab ho, q⟩
    exact ⟨Out.next _, μ, hq, ⟨rfl, t4⟩, (t.mv ((q1.1.trans q2a).trans q3a)).trans mv4⟩
end
end Mine
end

noncomputable section -- V5
open PySem PyProof.Rows
set_option maxRecDepth 100000
namespace Mine

theorem Storable_cell {w : World} {A : Around} {n : Nat} {fd : FuncData} {a : Addr} {s : Shared} {μ : Addr → Prop} {x : Str} (hk : fd.scope.names.lookup x = some .cell) (hok : okName x = true) : Storable (callCx w A n fd a s μ) x := by
  refine ⟨hok, .inr ⟨hk, ?_⟩⟩
  have h1 := cellsFrom_has x (s.heap.objs.size + 1) fd.scope.names [] hk
  obtain ⟨cl, e⟩ := Option.isSome_iff_exists.mp h1
  refine ⟨cl, e, ?_⟩
  exact Nat.le_of_succ_le (cellsFrom_ge (n₀ := s.heap.objs.size + 1) (s.heap.objs.size + 1) fd.scope.names [] (fun _ h => by cases h) (Nat.le_refl _) _ (mem_of_lookup e))

noncomputable def colsL (l : List Nat) : List Int := (List.range 5).map fun (i : Nat) => colF l (1 + i)
noncomputable def colsD (l : List Nat) : D := .lst ((colsL l).map .int)
noncomputable def colT (P : List (Nat × List Nat)) : List (Str × D) := P.map fun p => (S [p.1], colsD p.2)
noncomputable def colC (P : List (Nat × List Nat)) (k : Str) : List Int := ((P.find? fun p => S [p.1] = k).map fun p => colsL p.2).getD []
noncomputable def ksP (P : List (Nat × List Nat)) : List (Int × Str) := P.map fun p => ((colsL p.2).getD 0 0, S [p.1])
noncomputable def srt (ks : List (Int × Str)) : List (Int × Str) := (kasRun (fun i j => keyLt (ks.getD i (0, ⟨#[]⟩)) (ks.getD j (0, ⟨#[]⟩))) (PySem.W.kas_sort ks.length)).toList.map fun i => ks.getD i (0, ⟨#[]⟩)
noncomputable def risL (P : List (Nat × List Nat)) : List Str := (srt (ksP P)).map (·.2)
noncomputable def ltC (a b : List Int) : Bool := (List.range 5).all fun k => decide (a.getD k 0 < b.getD k 0)
noncomputable def putA {α : Type} (l : List (Str × α)) (k : Str) (d : α) : List (Str × α) :=
  if l.any (fun kv => kv.1 = k) then l.map (fun kv => if kv.1 = k then (kv.1, d) else kv) else l ++ [(k, d)]
noncomputable def prD (p : Str × Int × Int) : Str × D := (p.1, .tup [.int p.2.1, .int p.2.2])
noncomputable def underL (C : Str → List Int) (l2 : List (Str × Int × Int)) (h : Str) : List (Int × Int) := (l2.filter fun p => ltC (C p.1) (C h)).map (·.2)
noncomputable def dueStep (C : Str → List Int) (l2 : List (Str × Int × Int)) (h : Str) : List (Str × Int × Int) :=
  if (underL C l2 h).isEmpty then l2 else putA l2 h (((underL C l2 h).map (·.1)).sum, -((underL C l2 h).map (·.2)).sum)
noncomputable def dueL (C : Str → List Int) (ris : List Str) (low : Str) : List (Str × Int × Int) := ris.foldl (dueStep C) [(low, (1, 1))]
noncomputable def tabD (P : List (Nat × List Nat)) : List (Str × D) := P.map fun p => (S [p.1], .dct ((dueL (colC P) (risL P) (S [p.1])).map prD))

theorem putA_map (l : List (Str × Int × Int)) (k : Str) (v : Int × Int) : (putA l k v).map prD = putD (l.map prD) k (.tup [.int v.1, .int v.2]) := by
  unfold putA putD
  rw [List.any_map]
  have : ((fun kv : Str × D => decide (kv.1 = k)) ∘ prD) = fun kv => decide (kv.1 = k) := rfl
  rw [this]
  split
  · rw [List.map_map, List.map_map]
    refine List.map_congr_left fun p _ => ?_
    show prD _ = _
    simp only [Function.comp]
    have : (prD p).1 = p.1 := rfl
    rw [this]
    split <;> rfl
  · rw [List.map_append]; rfl
theorem putA_keys {α : Type} (l : List (Str × α)) (k : Str) (v : α) (hn : (l.map (·.1)).Nodup) : ((putA l k v).map (·.1)).Nodup := by
  unfold putA
  split
  · rw [List.map_map]
    have : (l.map ((fun x => x.1) ∘ fun kv => if kv.1 = k then (kv.1, v) else kv)) = l.map (·.1) := List.map_congr_left fun p _ => by
      simp only [Function.comp]; split <;> rfl
    rw [this]; exact hn
  · rename_i h
    rw [List.map_append, List.nodup_append]
    refine ⟨hn, by simp, fun a ha b hb e => h ?_⟩
    simp only [List.map_cons, List.map_nil, List.mem_singleton] at hb
    subst hb; subst e
    obtain ⟨p, hp, e⟩ := List.mem_map.mp ha
    exact List.any_eq_true.mpr ⟨p, hp, by simpa using e⟩
theorem putA_len {α : Type} (l : List (Str × α)) (k : Str) (v : α) : (putA l k v).length ≤ l.length + 1 := by
  unfold putA; split <;> simp
theorem dueStep_len (C : Str → List Int) (l2 : List (Str × Int × Int)) (h : Str) : (dueStep C l2 h).length ≤ l2.length + 1 := by
  unfold dueStep; split
  · (first | lia | omega)
  · exact putA_len _ _ _
theorem dueStep_nodup (C : Str → List Int) (l2 : List (Str × Int × Int)) (h : Str) (hn : (l2.map (·.1)).Nodup) : ((dueStep C l2 h).map (·.1)).Nodup := by
  unfold dueStep; split
  · exact hn
  · exact putA_keys _ _ _ hn
theorem foldl_due (C : Str → List Int) : ∀ (r : List Str) (l : List (Str × Int × Int)), (l.map (·.1)).Nodup → ((r.foldl (dueStep C) l).map (·.1)).Nodup ∧ (r.foldl (dueStep C) l).length ≤ l.length + r.length
  | [], l, h => ⟨h, by simp⟩
  | x :: r, l, h => by
    obtain ⟨a, b⟩ := foldl_due C r (dueStep C l x) (dueStep_nodup C l x h)
    refine ⟨a, ?_⟩
    have := dueStep_len C l x
    simp only [List.foldl_cons, List.length_cons]; (first | lia | omega)

theorem lookD_none {l : List (Str × D)} {k : Str} (h : k ∉ l.map (·.1)) : lookD l k = none := by
  unfold lookD
  rw [Option.map_eq_none_iff, List.find?_eq_none]
  intro p hp e
  exact h (List.mem_map.mpr ⟨p, hp, by simpa using e⟩)
theorem S_one_inj {a b : Nat} (h : S [a] = S [b]) : a = b := by have := S_inj h; simpa using this
theorem nodup_S {l : List Nat} (h : l.Nodup) : (l.map fun n => S [n]).Nodup := by
  induction l with
  | nil => exact List.nodup_nil
  | cons a l ih =>
    rw [List.nodup_cons] at h
    rw [List.map_cons, List.nodup_cons]
    refine ⟨fun z => ?_, ih h.2⟩
    obtain ⟨b, hb, e⟩ := List.mem_map.mp z
    exact h.1 (S_one_inj e ▸ hb)
theorem colT_keys (P : List (Nat × List Nat)) : (colT P).map (·.1) = (P.map (·.1)).map fun n => S [n] := by
  unfold colT; rw [List.map_map, List.map_map]; rfl
theorem colT_look {P : List (Nat × List Nat)} (hn : (P.map (·.1)).Nodup) {p : Nat × List Nat} (hp : p ∈ P) : lookD (colT P) (S [p.1]) = some (colsD p.2) := by
  have h1 : ((colT P).map (·.1)).Nodup := by rw [colT_keys]; exact nodup_S hn
  exact lookD_mem h1 (p := (S [p.1], colsD p.2)) (List.mem_map.mpr ⟨p, hp, rfl⟩)
theorem colC_of {P : List (Nat × List Nat)} (hn : (P.map (·.1)).Nodup) {p : Nat × List Nat} (hp : p ∈ P) : colC P (S [p.1]) = colsL p.2 := by
  unfold colC
  have : (P.find? fun q => S [q.1] = S [p.1]) = some p := by
    induction P with
    | nil => cases hp
    | cons q P ih =>
      rw [List.map_cons, List.nodup_cons] at hn
      rw [List.find?_cons]
      rcases List.mem_cons.mp hp with rfl | hp
      · simp
      · have : ¬ S [q.1] = S [p.1] := fun e => hn.1 (List.mem_map.mpr ⟨p, hp, (S_one_inj e).symm⟩)
        simp only [this, decide_false]
        exact ih hn.2 hp
  rw [this]; rfl

section
variable {w : World} {A : Around} {μ : Addr → Prop} {s : Shared}

theorem due_keys {K : Str → Prop} {C : Str → List Int} : ∀ {r : List Str} {l : List (Str × Int × Int)}, (∀ x ∈ l, K x.1) → (∀ x ∈ r, K x) → ∀ x ∈ r.foldl (dueStep C) l, K x.1
  | [], l, h, _ => h
  | y :: r, l, h, hr => due_keys (r := r) (l := dueStep C l y) (fun x hx => by
      unfold dueStep at hx
      split at hx
      · exact h x hx
      · unfold putA at hx
        split at hx
        · obtain ⟨z, hz, rfl⟩ := List.mem_map.mp hx
          have := h z hz
          split <;> exact this
        · rcases List.mem_append.mp hx with hx | hx
          · exact h x hx
          · rw [List.mem_singleton.mp hx]; exact hr y List.mem_cons_self) fun x hx => hr x (List.mem_cons_of_mem _ hx)
noncomputable def geB (A B : List Int) (d : D) : Bool := match d with | .int z => decide (B.getD z.toNat 0 ≤ A.getD z.toNat 0) | _ => false
theorem ltC_nil (A B : List Int) : (((rngD 0 5).filter (geB A B)).map id).isEmpty = ltC A B := by
  rw [Bool.eq_iff_iff, List.isEmpty_iff, List.map_eq_nil_iff, List.filter_eq_nil_iff]
  unfold ltC rngD
  rw [List.all_eq_true]
  constructor
  · intro h k hk
    have := h (.int (0 + (k : Nat))) (List.mem_map.mpr ⟨k, hk, rfl⟩)
    unfold geB at this
    rw [decide_eq_true_eq] at this ⊢
    have e : ((0 : Int) + (k : Nat)).toNat = k := by (first | lia | omega)
    rw [e] at this; (first | lia | omega)
  · intro h d hd
    obtain ⟨k, hk, rfl⟩ := List.mem_map.mp hd
    have := h k hk
    unfold geB
    rw [decide_eq_true_eq] at this ⊢
    have e : ((0 : Int) + (k : Nat)).toNat = k := by (first | lia | omega)
    rw [e]; (first | lia | omega)
noncomputable def duoD (v : Int × Int) : D := .tup [.int v.1, .int v.2]
theorem signs_S (l : List Nat) : signs (S l) = l.map fun n => .str (S [n]) := by unfold signs; rw [S_cps]; rfl
theorem cols_get {l : List Nat} {k : Nat} (hk : k < 5) : ((colsL l).map D.int)[k]? = some (.int ((colsL l).getD k 0)) := by
  have : (colsL l).length = 5 := by simp [colsL]
  rw [List.getElem?_map, List.getD_eq_getElem?_getD, List.getElem?_eq_getElem (by (first | lia | omega))]; rfl
theorem ksP_key (P : List (Nat × List Nat)) : (ksP P).map keyD = P.map fun p => D.tup [.int ((colsL p.2).getD 0 0), .str (S [p.1])] := by
  unfold ksP; rw [List.map_map]; rfl

noncomputable def specTables : List D → D → Prop := fun ds d => ∃ P : List (Nat × List Nat), ds = [.str (S (P.map (·.1))), .lst (P.map fun p => .str (S p.2))] ∧ (P.map (·.1)).Nodup ∧ (P.length = 4 ∨ P.length = 5) ∧
  kasIn P.length (fun i j => keyLt ((ksP P).getD i (0, ⟨#[]⟩)) ((ksP P).getD j (0, ⟨#[]⟩))) (PySem.W.kas_sort P.length) ∧ (∀ i ∈ (kasRun (fun i j => keyLt ((ksP P).getD i (0, ⟨#[]⟩)) ((ksP P).getD j (0, ⟨#[]⟩))) (PySem.W.kas_sort P.length)).toList, i < P.length) ∧ (risL P).length ≤ 5 ∧ (∀ x ∈ risL P, ∃ p ∈ P, x = S [p.1]) ∧ d = .dct (tabD P)

theorem fn_tables (w : World) : Fn w (.ref 179) 2 specTables := by
  refine Fn_intro (fd := fdTables) (body := bodyOf (topSt 14)) (ps := [Str.ofString "names", Str.ofString "leads"]) (by exact mem_lkA rfl) rfl ?_ rfl ?_ (by decide) (by decide) (by decide) rfl rfl rfl rfl rfl ?_
  · exact vs2 fun _ _ => rfl
  · rintro ds d ⟨t, rfl, _⟩; rfl
  rintro A μ s ds d ⟨P, rfl, hnd, hlen, hin, hperm, hr5, hrm, rfl⟩
  have hSt : ∀ x, fdTables.scope.names.lookup x = some .cell → okName x = true → Storable (callCx w A 1 fdTables 179 s μ) x := fun x h1 h2 => Storable_cell h1 h2
  have hl5 : P.length ≤ 5 := by (first | lia | omega)
  refine W_newdict (Storable_cell rfl rfl) fun a => ?_
  refine W_for (ds := rngD 0 P.length) (P1 := isRng 0 P.length) (fun i ρ => ρ "columns" = some (OD w a (colT (P.take i))) ∧ ρ "leads" = some (.fz (.lst (P.map fun p => .str (S p.2)))) ∧ ρ "names" = some (.fz (.str (S (P.map (·.1))))))
    (EvV_t1 (P1 := isD w (.int P.length)) (EvV_b1 (Ev_name rfl) (P := isD w (.int P.length)) ?_ (by decide) boot_len rfl) .rng (by decide) boot_range rfl) (Itb.rng (by (first | lia | omega)) (by (first | lia | omega)) (by (first | lia | omega)) (by (first | lia | omega))) (Storable_cell rfl rfl) ⟨rfl, rfl, rfl⟩ ?_ ?_
  · have := Op1.lenS (c := callCx w A 1 fdTables 179 s μ) (ρ := upd (locOf Loc.nil [Str.ofString "names", Str.ofString "leads"] [.str (S (P.map (·.1))), .lst (P.map fun p => .str (S p.2))]) "columns" (OD w a [])) (x := S (P.map (·.1))) (by rw [S_length, List.length_map]; (first | lia | omega))
    rw [S_length, List.length_map] at this
    exact this
  · rintro i d ρ g hd ⟨h1, h2, h3⟩
    obtain ⟨hi, rfl⟩ := rngD_get0 hd
    have hi' : i < P.length := by simpa using hi
    have hP : P[i]? = some P[i] := by simp [hi']
    have e1 : colT (P.take (i + 1)) = colT (P.take i) ++ [(S [P[i].1], colsD P[i].2)] := by
      unfold colT; rw [List.take_add_one, hP, List.map_append]; rfl
    have hnk : S [P[i].1] ∉ (colT (P.take i)).map (·.1) := by
      rw [colT_keys]
      intro z
      obtain ⟨n, hn, e⟩ := List.mem_map.mp z
      have e := S_one_inj e
      have : (P.take (i + 1)).map (·.1) = (P.take i).map (·.1) ++ [P[i].1] := by rw [List.take_add_one, hP, List.map_append]; rfl
      have h5 : ((P.take (i + 1)).map (·.1)).Nodup := hnd.sublist ((List.take_sublist _ _).map _)
      rw [this, List.nodup_append] at h5
      exact h5.2.2 n hn _ (List.mem_singleton.mpr rfl) e
    have hnm : (seqIndex? (i : Int) (S (P.map (·.1))).length).bind ((S (P.map (·.1))).cps[·]?) = some P[i].1 := by
      rw [seqIdx_pos (by (first | lia | omega)) (by rw [S_length, List.length_map]; (first | lia | omega))]
      show (S (P.map (·.1))).cps[(i : Int).toNat]? = _
      rw [← Array.getElem?_toList, S_cps, List.getElem?_map, Int.toNat_natCast, hP]; rfl
    refine W_setitem (x := "columns") (a := a) (l := colT (P.take i)) h1 (Ev_listcomp (ds := rngD 1 6) (P1 := isRng 1 6) (fun _ => true) (fun d => match d with | .int z => .int (colF P[i].2 z) | _ => .none) (EvV_t2 Ev_int Ev_int (.isD _) .rng (by decide) boot_range rfl) (Itb.rng (by decide) (by decide) (by decide) (by decide)) (fun C s μ j d hd => ?_) ?_ rfl rfl (by decide) rfl rfl (by decide)) 
      (EvV_sub (P2 := isD _ (.int i)) (Ev_name h3) (Ev_name rfl) (.isD _) (.itemS rfl (by (first | lia | omega)) (by (first | lia | omega)) hnm)) ?_ (W_nil ⟨?_, h2, h3⟩)
    · obtain ⟨hj, rfl⟩ := rngD_get hd
      refine ⟨TstL_nil, fun _ => ?_⟩
      refine Ev_call (ds := [.str (S P[i].2), .int (1 + j)]) (fn_column w) (by exact mem_lk (by kernel_rfl)) (fd := fdColumn) (by exact mem_lkA rfl) rfl (EvL_cons (EvV_sub (P2 := isD _ (.int i)) (Ev_name (compLoc_free h2 rfl rfl)) (Ev_name (compLoc_free (d := .int (1 + j)) rfl rfl rfl)) (.isD _) (.itemL rfl (by (first | lia | omega)) (by (first | lia | omega)) ?_)) (EvL_cons (Ev_name compLoc_x) EvL_nil)) ⟨_, _, rfl, by (first | lia | omega), ?_⟩ (Nat.le_refl _)
      · rw [Int.toNat_natCast, List.getElem?_map, hP]; rfl
      · rw [S_cps]
    · rw [rngD_len, sizeLine_eq]; decide
    · rw [show (colT (P.take i)).length = (P.take i).length by simp [colT], List.length_take]; (first | lia | omega)
    · rw [e1, ← putD_new hnk]; rfl
  · rintro ρ ⟨h1, h2, h3⟩
    rw [rngD_len] at h1
    have e1 : P.take ((P.length : Int) - 0).toNat = P := by rw [Int.sub_zero, Int.toNat_natCast, List.take_length]
    rw [e1] at h1
    refine W_freezeD (x := "columns") h1 ?_
    have hkl : (ksP P).length = P.length := by simp [ksP]
    refine W_assign_listcomp (ds := (srt (ksP P)).map keyD) (P1 := isD w (.lst ((srt (ksP P)).map keyD))) (fun _ => true) (fun d => match d with | .tup [_, e] => e | _ => .none)
      (EvV_b1 (P1 := isD w (.lst ((ksP P).map keyD))) (Ev.eq (Ev_listcomp (ds := signs (S (P.map (·.1)))) (fun _ => true) (fun d => match d with | .str k => keyD ((colC P k).getD 0 0, k) | _ => .none) (Ev_name (h3)) Itb.str (fun C s μ j d hd => ?_) ?_ rfl rfl (by decide) rfl rfl (by decide)) ?_) (.sorted (by (first | lia | omega)) (by (first | lia | omega)) (by rw [hkl]; exact hin) (by rw [hkl]; exact hperm)) (by decide) boot_sorted rfl) Itb.list (fun C s μ j d hd => ?_) ?_ rfl rfl (by decide) rfl rfl (by decide) ⟨rfl, .inl rfl⟩ rfl ?_
    · rw [signs_S, List.map_map, List.getElem?_map] at hd
      cases hPj : P[j]? with
      | none => rw [hPj] at hd; cases hd
      | some p =>
        rw [hPj] at hd; cases hd
        have hp := List.mem_of_getElem? hPj
        refine ⟨TstL_nil, fun _ => ?_⟩
        show Ev _ _ _ (keyD ((colC P (S [p.1])).getD 0 0, S [p.1]))
        rw [colC_of hnd hp]
        exact Ev_tup (EvL_cons (EvV_sub (P2 := isD _ (.int 0)) (EvV_sub (P2 := isD _ (.str (S [p.1]))) (Ev_name (compLoc_free rfl rfl rfl)) (Ev_name compLoc_x) (.isD _) (.itemD rfl (colT_look hnd hp))) Ev_int (.isD _) (.itemL rfl (by decide) (by decide) (cols_get (by decide)))) (EvL_cons (Ev_name compLoc_x) EvL_nil)) (by show 2 ≤ sizeLine; decide)
    · rw [signs_S, List.length_map, List.length_map, sizeLine_eq]; (first | lia | omega)
    · rw [signs_S, List.filter_eq_self.mpr (fun _ _ => rfl), ksP_key, List.map_map, List.map_map]
      congr 1
      refine List.map_congr_left fun p hp => ?_
      show keyD _ = _
      rw [colC_of hnd hp]; rfl
    · rw [List.getElem?_map] at hd
      cases hj : (srt (ksP P))[j]? with
      | none => rw [hj] at hd; cases hd
      | some x =>
        rw [hj] at hd; cases hd
        refine ⟨TstL_nil, fun _ => ?_⟩
        exact EvV_sub (P2 := isD _ (.int 1)) (Ev_name compLoc_x) Ev_int (.isD _) (.itemT (ds := [.int x.1, .str x.2]) rfl (by decide) (by decide) rfl)
    · rw [List.length_map, sizeLine_eq]
      have : (srt (ksP P)).length = (risL P).length := by simp [risL]
      (first | lia | omega)
    have er : D.lst (((srt (ksP P)).map keyD |>.filter fun _ => true).map fun d => match d with | .tup [_, e] => e | _ => .none) = .lst ((risL P).map .str) := by
      rw [List.filter_eq_self.mpr (fun _ _ => rfl), List.map_map]
      unfold risL; rw [List.map_map]; rfl
    rw [er]
    refine W_newdict ⟨rfl, .inl rfl⟩ fun a2 => ?_
    refine W_for (ds := signs (S (P.map (·.1)))) (fun i ρ => ρ "due" = some (OD w a2 ((tabD P).take i)) ∧ ρ "columns" = some (.fz (.dct (colT P))) ∧ ρ "rising" = some (.fz (.lst ((risL P).map .str)))) (Ev_name h3) Itb.str ⟨rfl, .inl rfl⟩ ⟨rfl, rfl, rfl⟩ ?_ ?_
    · rintro i d ρ g hd ⟨g1, g2, g3⟩
      rw [signs_S, List.map_map] at hd
      obtain ⟨p, hPi, rfl⟩ := map_get hd
      have hp := List.mem_of_getElem? hPi
      have hi : i < P.length := (List.getElem?_eq_some_iff.mp hPi).1
      have htk : (tabD P).map (·.1) = (P.map (·.1)).map fun n => S [n] := by unfold tabD; rw [List.map_map, List.map_map]; rfl
      have e1 : (tabD P).take (i + 1) = (tabD P).take i ++ [(S [p.1], .dct ((dueL (colC P) (risL P) (S [p.1])).map prD))] := by
        unfold tabD; rw [List.take_add_one, List.getElem?_map, hPi]; rfl
      have hnone : lookD ((tabD P).take i) (S [p.1]) = none := by
        refine lookD_none ?_
        have h5 : (((tabD P).take (i + 1)).map (·.1)).Nodup := by
          have h6 : ((tabD P).map (·.1)).Nodup := by rw [htk]; exact nodup_S hnd
          exact h6.sublist ((List.take_sublist _ _).map _)
        rw [e1, List.map_append, List.nodup_append] at h5
        exact fun z => h5.2.2 _ z _ (List.mem_singleton.mpr rfl) rfl
      have hlt : ((tabD P).take i).length ≤ 1000 := by rw [List.length_take]; (first | lia | omega)
      refine W_setNew (x := "due") (a := a2) (k := S [p.1]) (k2 := S [p.1]) (d := .tup [.int 1, .int 1]) g1 (Ev_name rfl) (Ev_tup (EvL_cons Ev_int (EvL_cons Ev_int EvL_nil))) (Ev_name rfl) hnone hlt fun b hB => ?_
      refine W_for (ds := (risL P).map .str) (fun j ρ => ρ "due" = some (DU w a2 b ((tabD P).take i) (S [p.1]) ((((risL P).take j).foldl (dueStep (colC P)) [(S [p.1], (1, 1))]).map prD)) ∧ ρ "columns" = some (.fz (.dct (colT P))) ∧ ρ "rising" = some (.fz (.lst ((risL P).map .str))) ∧ ρ "low" = some (.fz (.str (S [p.1]))))
        (Ev_name (g3)) Itb.list (hSt _ rfl rfl) ⟨rfl, g2, g3, rfl⟩ ?_ ?_
      · rintro j d ρ g' hd ⟨f1, f2, f3, f4⟩
        obtain ⟨h, hj, rfl⟩ := map_get hd
        have eL : ((risL P).take (j + 1)).foldl (dueStep (colC P)) [(S [p.1], (1, 1))] = dueStep (colC P) (((risL P).take j).foldl (dueStep (colC P)) [(S [p.1], (1, 1))]) h := by
          rw [List.take_add_one, hj, List.foldl_append]; rfl
        rw [eL]
        have hL : ∀ x ∈ ((risL P).take j).foldl (dueStep (colC P)) [(S [p.1], (1, 1))], ∃ q ∈ P, x.1 = S [q.1] := due_keys (K := fun k => ∃ q ∈ P, k = S [q.1]) (fun x hx => by rw [List.mem_singleton.mp hx]; exact ⟨p, hp, rfl⟩) fun x hx => hrm x (List.mem_of_mem_take hx)
        obtain ⟨hLn, hLl⟩ := foldl_due (colC P) ((risL P).take j) [(S [p.1], (1, 1))] (by simp)
        have hLl : (((risL P).take j).foldl (dueStep (colC P)) [(S [p.1], (1, 1))]).length ≤ 10 := by
          rw [List.length_take] at hLl; simp only [List.length_cons, List.length_nil] at hLl; (first | lia | omega)
        generalize ((risL P).take j).foldl (dueStep (colC P)) [(S [p.1], (1, 1))] = L at *
        obtain ⟨qh, hqh, rfl⟩ := hrm h (List.mem_of_getElem? hj)
        refine W_newlist ⟨rfl, .inl rfl⟩ fun u => ?_
        refine W_pin (x := "due") (b := b) (as := [a2, b]) (R := duR w a2 b ((tabD P).take i) (S [p.1]) (L.map prD)) f1 (by simp) fun o => ?_
        refine W_forK (y := "due") (o := o) (l2 := L.map prD) (fun m ρ => ρ "due" = some (.own [a2, b] (pinR (duR w a2 b ((tabD P).take i) (S [p.1]) (L.map prD)) b o)) ∧ ρ "under" = some (OL w u ((underL (colC P) (L.take m) (S [qh.1])).map duoD)) ∧
            ρ "columns" = some (.fz (.dct (colT P))) ∧ ρ "rising" = some (.fz (.lst ((risL P).map .str))) ∧ ρ "low" = some (.fz (.str (S [p.1]))) ∧ ρ "high" = some (.fz (.str (S [qh.1]))))
          (EvV_itemDUp rfl (Ev_name f4) hnone) (hSt _ rfl rfl) ⟨rfl, rfl, f2, f3, f4, rfl⟩ hB (fun m ρ' hJ => ⟨_, _, hJ.1⟩) ?_ ?_
        · rintro m pp ρ g'' hm ⟨k1, k2, k3, k4, k5, k6⟩
          obtain ⟨x, hx, rfl⟩ := map_get hm
          have hxL := List.mem_of_getElem? hx
          have hmL : m < L.length := (List.getElem?_eq_some_iff.mp hx).1
          obtain ⟨qx, hqx, ex⟩ := hL x hxL
          have eU : underL (colC P) (L.take (m + 1)) (S [qh.1]) = underL (colC P) (L.take m) (S [qh.1]) ++ (if ltC (colC P x.1) (colC P (S [qh.1])) = true then [x.2] else []) := by
            unfold underL
            rw [List.take_add_one, hx, List.filter_append, List.map_append]
            congr 1
            simp only [Option.toList, List.filter_cons, List.filter_nil]
            split <;> rfl
          have hlk : lookD (L.map prD) x.1 = some (duoD x.2) := lookD_mem (p := prD x) (by rw [List.map_map]; exact hLn) (List.mem_map.mpr ⟨x, hxL, rfl⟩)
          refine W_if (Tst_cmp (P1 := isD w (.lst (((rngD 0 5).filter (geB (colC P x.1) (colC P (S [qh.1])))).map id))) (Ev_listcomp (ds := rngD 0 5) (P1 := isRng 0 5) (geB (colC P x.1) (colC P (S [qh.1]))) id (EvV_t1 Ev_int .rng (by decide) boot_range rfl) (Itb.rng (by decide) (by decide) (by decide) (by decide)) (fun C s μ z d hd => ?_) (by rw [rngD_len, sizeLine_eq]; decide) rfl rfl (by decide) rfl rfl (by decide)) (Ev_lst EvL_nil) (.isD _) .eqNil) (fun hb => ?_) fun hb => ?_
          · obtain ⟨hz, rfl⟩ := rngD_get0 hd
            have hz5 : z < 5 := by simpa using hz
            refine ⟨TstL_one ?_, fun _ => Ev_name compLoc_x⟩
            unfold geB
            rw [ex, colC_of hnd hqx, colC_of hnd hqh]
            refine Tst_cmp (P1 := isD w (.int ((colsL qx.2).getD (z : Int).toNat 0))) (P2 := isD w (.int ((colsL qh.2).getD (z : Int).toNat 0)))
              (EvV_sub (P2 := isD _ (.int z)) (EvV_sub (P2 := isD _ (.str (S [qx.1]))) (Ev_name (compLoc_free (show _ = some (LV.fz (.dct (colT P))) from k3) rfl rfl)) (Ev_name (compLoc_free (e := .str (S [qx.1])) (show some (LV.fz (.str (prD x).1)) = _ by rw [← ex]; rfl) rfl rfl)) (.isD _) (.itemD rfl (colT_look hnd hqx))) (Ev_name compLoc_x) (.isD _) (.itemL rfl (by (first | lia | omega)) (by (first | lia | omega)) (cols_get (by (first | lia | omega)))))
              (EvV_sub (P2 := isD _ (.int z)) (EvV_sub (P2 := isD _ (.str (S [qh.1]))) (Ev_name (compLoc_free (show _ = some (LV.fz (.dct (colT P))) from k3) rfl rfl)) (Ev_name (compLoc_free (show _ = some (LV.fz (.str (S [qh.1]))) from k6) rfl rfl)) (.isD _) (.itemD rfl (colT_look hnd hqh))) (Ev_name compLoc_x) (.isD _) (.itemL rfl (by (first | lia | omega)) (by (first | lia | omega)) (cols_get (by (first | lia | omega)))))
              (.isD _) .ge
          · rw [ltC_nil] at hb
            refine W_append (x := "under") (a := u) k2 (Ev_item2 (x := "due") (as := [a2, b]) (b := b) (R := pinR (duR w a2 b ((tabD P).take i) (S [p.1]) (L.map prD)) b o) (d := duoD x.2) k1 (by simp) (EvV_itemDUp k1 (Ev_name k5) hnone) (Ev_name (d := .str x.1) rfl) hlk) ?_ (W_end (W_nil ⟨k1, ?_, k3, k4, k5, k6⟩))
            · rw [List.length_map]; unfold underL; rw [List.length_map]
              exact Nat.le_trans (List.length_filter_le _ _) (by rw [List.length_take]; (first | lia | omega))
            · rw [eU, if_pos hb, List.map_append]; rfl
          · rw [ltC_nil] at hb
            refine W_end (W_nil ⟨k1, ?_, k3, k4, k5, k6⟩)
            rw [eU, hb, if_neg Bool.false_ne_true, List.append_nil]; exact k2
        · rintro ρ ⟨k1, k2, k3, k4, k5, k6⟩
          rw [List.length_map, List.take_length] at k2
          refine W_weak (x := "due") (a := a2) (R' := duR w a2 b ((tabD P).take i) (S [p.1]) (L.map prD)) k1 (by simp) duR_stable (fun _ _ _ r => r.1) ?_
          refine W_freezeL (x := "under") k2 ?_
          have hstep : dueStep (colC P) L (S [qh.1]) = if (underL (colC P) L (S [qh.1])).isEmpty then L else putA L (S [qh.1]) (((underL (colC P) L (S [qh.1])).map (·.1)).sum, -((underL (colC P) L (S [qh.1])).map (·.2)).sum) := rfl
          rw [hstep]
          have hUl : (underL (colC P) L (S [qh.1])).length ≤ 10 := by
            unfold underL; rw [List.length_map]
            exact Nat.le_trans (List.length_filter_le _ _) hLl
          generalize underL (colC P) L (S [qh.1]) = U at *
          have hUD : ∀ (j : Nat) (d : D), (U.map duoD)[j]? = some d → ∃ v, d = duoD v := fun j d hd => by
            rw [List.getElem?_map] at hd
            cases hv : U[j]? with
            | none => rw [hv] at hd; cases hd
            | some v => rw [hv] at hd; cases hd; exact ⟨v, rfl⟩
          refine W_if (Tst_cmp (P1 := isD w (.lst (U.map duoD))) (Ev_name rfl) (Ev_lst EvL_nil) (.isD _) .neNil) (fun hb => ?_) fun hb => ?_
          · have hU : U.isEmpty = false := by
              cases U with
              | nil => cases hb
              | cons v U => rfl
            rw [hU, if_neg Bool.false_ne_true]
            refine W_setDU (x := "due") (l2 := L.map prD) (k := S [p.1]) (j := S [qh.1]) (d := duoD ((U.map (·.1)).sum, -(U.map (·.2)).sum)) rfl (Ev_tup (EvL_cons (EvV_b1 (P1 := isD w (.lst ((U.map (·.1)).map .int))) (Ev.eq (Ev_listcomp (ds := U.map duoD) (fun _ => true) (fun d => match d with | .tup [e, _] => e | _ => .none) (Ev_name rfl) Itb.list (fun C s μ j d hd => ?_) ?_ rfl rfl (by decide) rfl rfl (by decide)) ?_) .sum (by decide) boot_sum rfl)
              (EvL_cons (Ev_neg (EvV_b1 (P1 := isD w (.lst ((U.map (·.2)).map .int))) (Ev.eq (Ev_listcomp (ds := U.map duoD) (fun _ => true) (fun d => match d with | .tup [_, e] => e | _ => .none) (Ev_name rfl) Itb.list (fun C s μ j d hd => ?_) ?_ rfl rfl (by decide) rfl rfl (by decide)) ?_) .sum (by decide) boot_sum rfl)) EvL_nil)) (by show 2 ≤ sizeLine; decide)) (Ev_name k5) (Ev_name k6) hnone ?_ (W_end (W_nil ⟨?_, k3, k4, k5⟩))
            · obtain ⟨v, rfl⟩ := hUD j d hd
              exact ⟨TstL_nil, fun _ => EvV_sub (P2 := isD _ (.int 0)) (Ev_name compLoc_x) Ev_int (.isD _) (.itemT (ds := [.int v.1, .int v.2]) rfl (by decide) (by decide) rfl)⟩
            · rw [List.length_map, sizeLine_eq]; (first | lia | omega)
            · rw [List.filter_eq_self.mpr (fun _ _ => rfl), List.map_map, List.map_map]; rfl
            · obtain ⟨v, rfl⟩ := hUD j d hd
              exact ⟨TstL_nil, fun _ => EvV_sub (P2 := isD _ (.int 1)) (Ev_name compLoc_x) Ev_int (.isD _) (.itemT (ds := [.int v.1, .int v.2]) rfl (by decide) (by decide) rfl)⟩
            · rw [List.length_map, sizeLine_eq]; (first | lia | omega)
            · rw [List.filter_eq_self.mpr (fun _ _ => rfl), List.map_map, List.map_map]; rfl
            · rw [List.length_map]; (first | lia | omega)
            · rw [putA_map]; rfl
          · have hU : U.isEmpty = true := by
              cases U with
              | nil => rfl
              | cons v U => cases hb
            rw [hU, if_pos rfl]
            exact W_end (W_nil ⟨rfl, k3, k4, k5⟩)
      · rintro ρ ⟨f1, f2, f3, f4⟩
        rw [List.length_map, List.take_length] at f1
        refine W_dropDU f1 (W_nil ⟨?_, f2, f3⟩)
        rw [e1]; rfl
    · rintro ρ ⟨g1, g2, g3⟩
      rw [show (signs (S (P.map (·.1)))).length = (tabD P).length by rw [signs_S]; simp [tabD], List.take_length] at g1
      exact W_freezeD (x := "due") g1 (W_ret (Ev_name rfl) rfl)
end
end Mine
end

noncomputable section -- V6
open PySem PyProof.Rows
set_option maxRecDepth 100000
namespace Mine

theorem cnt_count (k : Nat) : ∀ l : List Nat, PyProof.Rows.cnt k l = l.count k
  | [] => rfl
  | n :: r => by
    rw [cnt_cons, cnt_count k r, List.count_cons]
    by_cases h : n = k
    · rw [if_pos h, h]; simp; (first | lia | omega)
    · rw [if_neg h]
      have : (n == k) = false := by simpa using h
      rw [this]; simp

section
variable {c : Cx} {ρ : Loc} {μ : Addr → Prop} {s s' : Shared} {Q : Out → Prop}

theorem Tst_chain3 {l r1 r2 : Expr} {pos : Pos} {a b d : Int} (h1 : Ev c ρ l (.int a)) (h2 : Ev c ρ r1 (.int b)) (h3 : Ev c ρ r2 (.int d)) (hm : lastMarks [.Lt, .LtE] [r1, r2] = false := by with_unfolding_all rfl) :
    Tst c ρ (.Compare l [.Lt, .LtE] [r1, r2] pos) (decide (a < b) && decide (b ≤ d)) := fun μ s t => by
  refine isTrue_chain (wpAny_mono (h1 μ s t) (fun v s1 q1 => ?_) fun _ _ x => x) hm
  have t1 := t.ext q1.1
  refine test_link (wpAny_mono (h2 μ s1 t1) (fun u s2 q2 => ?_) fun _ _ x => x)
  have t2 := t1.ext q2.1
  refine wpAny_mono (Op2.lt μ s2 v u t2 (Rp.ext t.mu72 q2.1 q1.2) q2.2) (fun y s3 q3 => ?_) fun _ _ x => x
  have t3 := t2.ext q3.1
  obtain ⟨q3a, q3b⟩ := q3
  cases q3b
  refine wpAny_truthy_bool ?_
  by_cases hab : a < b
  · rw [decide_eq_true hab]
    rw [if_pos rfl]
    refine test_last (wpAny_mono (h3 μ s3 t3) (fun z s4 q4 => ?_) fun _ _ x => x)
    have t4 := t3.ext q4.1
    refine wpAny_mono (Op2.le μ s4 u z t4 (Rp.ext t.mu72 q4.1 (Rp.ext t.mu72 q3a q2.2)) q4.2) (fun y s5 q5 => ?_) fun _ _ x => x
    obtain ⟨q5a, q5b⟩ := q5
    cases q5b
    exact wpAny_truthy_bool ⟨(((q1.1.trans q2.1).trans q3a).trans q4.1).trans q5a, by simp⟩
  · rw [decide_eq_false hab]
    rw [if_neg Bool.false_ne_true]
    exact ⟨(q1.1.trans q2.1).trans q3a, by simp⟩

theorem W_while {test : Expr} {body rest : List Stmt} {pos : Pos} (J : Nat → Loc → Prop) (n0 : Nat) (h0 : J n0 ρ)
    (turn : ∀ n ρ', J n ρ' → ∃ b, Tst c ρ' test b ∧ (b = true → W c ρ' body (Turn (fun ρ'' => ∃ m, m < n ∧ J m ρ'') (After c rest Q))) ∧ (b = false → W c ρ' rest Q)) :
    W c ρ (.While test body [] pos :: rest) Q := W_cons fun μ s t => by
  refine wpAny_While (codeAny_whileLoop (fun n s' => ∃ μ' ρ', StM c μ' ρ' s' ∧ J n ρ' ∧ Mv c μ μ' s s') (fun n s' hI => ?_) n0 ⟨μ, ρ, t, h0, .refl⟩)
  obtain ⟨μ', ρ', t', hJ, mv⟩ := hI
  obtain ⟨b, hT, hb1, hb2⟩ := turn n ρ' hJ
  refine wpAny_mono (hT μ' s' t') (fun r s1 q => ?_) fun _ _ x => x.elim
  obtain ⟨q1, rfl⟩ := q
  have t1 := t'.ext q1
  have mv1 := mv.trans (t'.mv q1)
  cases r with
  | true =>
    refine wpAny_mono (hb1 rfl μ' s1 t1) (fun f s5 q => ?_) fun _ _ z => z.elim
    obtain ⟨o, μ5, q, r, mv5⟩ := q
    have mvT := mv1.trans mv5
    cases o with
    | next ρ'' => obtain ⟨rfl, r⟩ := r; obtain ⟨m, hm, hJ'⟩ := q; exact ⟨m, hm, μ5, ρ'', r, hJ', mvT⟩
    | cont ρ'' => obtain ⟨rfl, r⟩ := r; obtain ⟨m, hm, hJ'⟩ := q; exact ⟨m, hm, μ5, ρ'', r, hJ', mvT⟩
    | brk ρ'' => obtain ⟨rfl, r⟩ := r; exact ⟨Out.next ρ'', μ5, q, ⟨rfl, r⟩, mvT⟩
    | ret d ρ'' => obtain ⟨v, rfl, r, rr⟩ := r; exact ⟨Out.ret d ρ'', μ5, q, ⟨v, rfl, r, rr⟩, mvT⟩
  | false =>
    exact wpAny_execs_nil ⟨Out.next ρ', μ', hb2 rfl, ⟨rfl, t1⟩, mv1⟩

theorem Ev_count1 {o e : Expr} {apos pos : Pos} {x : Str} {k : Nat} {pl : Sem Bool} (h1 : Ev c ρ o (.str x)) (h2 : Ev c ρ e (.str (S [k])))
    (he : eval (.Call (.Attribute o "count" apos) [e] [] pos) c.env = (do
      let ov ← eval o c.env
      standAt apos.atName
      let (f, first) ← holding [ov] (getMethod ov "count" pl)
      callWith pos f first (backTo pos (starEach [e] c.env)) []) := by rfl) (hs : starEach [e] c.env = [(false, eval e c.env)] := by rfl) :
    Ev c ρ (.Call (.Attribute o "count" apos) [e] [] pos) (.int (x.cps.toList.count k)) :=
  EvV_strMeth1 (id := "str.count") h1 h2 (fun t s Q q => GM.count q) (fun tk μ s v t r => by
    cases r using Rp.elimStr with
    | str tu =>
      refine SC.count ⟨Ext.toks s _, ?_⟩
      have e : (Txt.count x (S [k]) : Int) = x.cps.toList.count k := by
        rw [← cnt_count]; exact count_is x k
      rw [e]; exact .int _ _) he hs

theorem Ev_getD {o e e' : Expr} {apos pos : Pos} {l : List (Str × D)} {k : Str} {d : D} {pl : Sem Bool} (h1 : Ev c ρ o (.dct l)) (h2 : Ev c ρ e (.str k)) (h3 : Ev c ρ e' d)
    (he : eval (.Call (.Attribute o "get" apos) [e, e'] [] pos) c.env = (do
      let ov ← eval o c.env
      standAt apos.atName
      let (f, first) ← holding [ov] (getMethod ov "get" pl)
      callWith pos f first (backTo pos (starEach [e, e'] c.env)) []) := by rfl) (hs : starEach [e, e'] c.env = (false, eval e c.env) :: starEach [e'] c.env := by rfl) (hs' : starEach [e'] c.env = [(false, eval e' c.env)] := by rfl) :
    Ev c ρ (.Call (.Attribute o "get" apos) [e, e'] [] pos) ((lookD l k).getD d) := fun μ s t => by
  refine MethodCall_ (pl := pl) (wpAny_mono (h1 μ s t) (fun v s1 q1 => ?_) fun _ _ x => x) he
  have t1 := t.ext q1.1
  obtain ⟨q1a, q1b⟩ := q1
  cases q1b using Rp.elimDct with
  | @dct a kvs ha hsy ee r =>
  refine getMethod_builtin ee.typeIs PySem.F.plainAttrs_dict PySem.F.slot_dict_get PySem.F.type_dict_get ee.mapOf.noDict ?_
  refine callWith_method1 (args_cons (wpAny_mono (h2 μ s1 t1) (fun u s2 q2 => args_cons (wpAny_mono (h3 μ s2 (t1.ext q2.1)) (fun z s3 q3 => args_nil ?_) fun _ _ x => x) hs') fun _ _ x => x) hs) hs (by
      show (backTo pos (starEach [e'] c.env)).any (·.1) = false
      rw [hs']; rfl)
  have t3 := (t1.ext q2.1).ext q3.1
  have rd : Rp c.w μ s3.heap (.ref a) (.dct l) := Rp.ext t.mu72 q3.1 (Rp.ext t.mu72 q2.1 (.dct ha hsy ee r))
  obtain ⟨q2a, q2b⟩ := q2
  cases q2b using Rp.elimStr with
  | str tk =>
  cases rd using Rp.elimDct with
  | @dct _ kvs' ha' hsy' ee' r' =>
  refine call_meetsIn PySem.F.slot_dict_get ee'.typeIs PySem.F.entry_dict_get (PySem.F.args_dict_get_3 _ _ _) (meets_dict_get_default (strKind PG c.w) a (isStr_key c.w k tk) hsy' z) ⟨_, ee'.mapOf, ?_⟩
  refine ⟨((q1a.trans q2a).trans q3.1).trans (Ext.toks s3 _), ?_⟩
  show Rp c.w μ s3.heap ((valueAt kvs' k).getD z) _
  cases hl : lookD l k with
  | none => rw [r'.lookNone hl]; exact q3.2
  | some e => obtain ⟨v, h1, h2⟩ := r'.look hl; rw [h1]; exact h2
end
end Mine
end

noncomputable section -- V7
open PySem PyProof.Rows
set_option maxRecDepth 100000
namespace Mine

section
variable {c : Cx} {ρ : Loc} {μ : Addr → Prop} {s s' : Shared} {Q : Out → Prop}

theorem StM.freezeB {x : Str} {as : List Addr} {R : VP} {d : D} (t : StM c μ ρ s) (hx : ρ x = some (.own as R)) (hS : ∀ b, Big b → ¬ c.S b) (hR : ∀ v, R μ s.heap v → Rp c.w (fun b => μ b ∧ b ∉ as) s.heap v d) :
    StM c (fun b => μ b ∧ b ∉ as) (upd ρ x (.fz d)) s ∧ Mv c μ (fun b => μ b ∧ b ∉ as) s s := by
  obtain ⟨hok, hndp, hown⟩ := t.frame.own x _ hx
  have hb : ∀ a ∈ as, c.s₀.heap.objs.size ≤ a := fun a ha => (hown a ha).2.2.2.1.elim (fun z => z) fun z => absurd z (hS a (hown a ha).2.2.2.2)
  refine ⟨⟨t.room, t.g, t.keep, t.os, t.bare, fun a q => ⟨t.mu0 a q, fun ha => Nat.not_lt.mpr (hb a ha) (t.mu0lt a q)⟩, t.mu0lt, fun a q => t.mu1 a q.1, fun a q => t.live a q.1, ⟨t.mu72, fun ha => absurd (hown _ ha).2.2.2.2 (by decide)⟩,
    fun a q => t.ge a q.1, t.pr72, fun a q => ⟨t.prM a q, fun ha => (hown a ha).2.2.1 q⟩, ?_⟩, ⟨fun _ _ _ e => e, fun _ _ _ n z => n z.1⟩⟩
  have f := t.frame
  have hfp : ∀ a ∈ c.fp, μ a ∧ a ∉ as := fun a ha => ⟨t.fpM a ha, fun z => (hown a z).2.1 ha⟩
  refine ⟨f.kind, f.glob, f.blt, hfp _ List.mem_cons_self, f.baseL, fun p hp => hfp _ (List.mem_cons_of_mem _ (List.mem_map.mpr ⟨p, hp, rfl⟩)), f.cells, f.cellK, f.apart, f.cellsL, f.big, f.prL, ?_, ?_, ?_⟩
  · obtain ⟨m, hn, hv⟩ := f.var
    refine ⟨m, hn, fun y l e => ?_⟩
    unfold upd at e
    by_cases hy : y = x
    · rw [if_pos hy] at e; cases e; subst hy
      obtain ⟨ok, u, va, r⟩ := hv y _ hx
      exact ⟨ok, u, va, hR u r⟩
    · rw [if_neg hy] at e
      obtain ⟨ok, u, va, r⟩ := hv y l e
      exact ⟨ok, u, va, r.keep (f.own y l e).1 (fun _ _ _ n z => n z.1) fun _ _ _ e => e⟩
  · intro y l e
    unfold upd at e
    by_cases hy : y = x
    · rw [if_pos hy] at e; cases e; exact ⟨trivial, List.nodup_nil, fun _ h => by cases h⟩
    · rw [if_neg hy] at e
      obtain ⟨h1, h2, h3⟩ := f.own y l e
      exact ⟨h1, h2, fun a ha => ⟨⟨(h3 a ha).1, fun z => f.sep x y _ l hx e (fun q => hy q.symm) a z ha⟩, (h3 a ha).2⟩⟩
  · intro y z k j ey ez hne b hb'
    unfold upd at ey ez
    by_cases hy : y = x
    · rw [if_pos hy] at ey; cases ey; cases hb'
    · rw [if_neg hy] at ey
      by_cases hz : z = x
      · rw [if_pos hz] at ez; cases ez; intro h; cases h
      · rw [if_neg hz] at ez
        exact f.sep y z k j ey ez hne b hb'
theorem W_freezeDB {x : Str} {a : Addr} {l : List (Str × D)} {ss : List Stmt} (hS : ∀ b, Big b → ¬ c.S b) (hx : ρ x = some (OD c.w a l)) (hq : W c (upd ρ x (.fz (.dct l))) ss Q) : W c ρ ss Q := fun μ s t => by
  have hbig : Big a := ((t.frame.own x _ hx).2.2 a (by simp [OD, LV.adr])).2.2.2.2
  obtain ⟨t', mv⟩ := t.freezeB (d := .dct l) hx hS fun v r => by
    obtain ⟨rfl, kvs, hd, hr⟩ := r
    refine .dct (fun z => z.2 (by simp)) ?_ hd (hr.move (fun b o _ n z => n z.1) fun _ _ _ e => e)
    rw [beq_eq_false_iff_ne]; exact Nat.ne_of_gt (Nat.lt_of_lt_of_le (by decide) hbig)
  exact wpAny_mono (hq _ s t') (fun _ _ e => e.trans mv) fun _ _ x => x
theorem W_freezeLB {x : Str} {a : Addr} {l : List D} {ss : List Stmt} (hS : ∀ b, Big b → ¬ c.S b) (hx : ρ x = some (OL c.w a l)) (hq : W c (upd ρ x (.fz (.lst l))) ss Q) : W c ρ ss Q := fun μ s t => by
  obtain ⟨t', mv⟩ := t.freezeB (d := .lst l) hx hS fun v r => by
    obtain ⟨rfl, vs, n, hd, hr⟩ := r
    exact .lst (fun z => z.2 (by simp)) hd (hr.move (fun b o _ n z => n z.1) fun _ _ _ e => e)
  exact wpAny_mono (hq _ s t') (fun _ _ e => e.trans mv) fun _ _ x => x

noncomputable def TstO (c : Cx) (ρ : Loc) (e : Expr) (x : Str) (l : LV) (b : Bool) : Prop :=
  ∀ μ s, StM c μ ρ s → wpAny (model PG c.w) c.A (isTrue e c.env (eval e c.env)) (fun r s' => StM c μ (upd ρ x l) s' ∧ Mv c μ μ s s' ∧ r = b) NoE s
theorem TstO_cmp {l r : Expr} {op : CmpOp} {pos : Pos} {x : Str} {lv : LV} {d1 : D} {P2 : VP} {b : Bool} (h1 : EvO c ρ l x lv d1) (h2 : EvV c (upd ρ x lv) r P2) (ho : Op2 c (upd ρ x lv) (compareOp op) (isD c.w d1) P2 (isD c.w (.bool b))) (hm : behindInMarks op r = false := by with_unfolding_all rfl) :
    TstO c ρ (.Compare l [op] [r] pos) x lv b := fun μ s t =>
  wpAny_isTrue_Compare1 (wpAny_mono (h1 μ s t) (fun v1 s1 q1 => by
    obtain ⟨t1, mv1, r1⟩ := q1
    exact wpAny_mono (h2 μ s1 t1) (fun v2 s2 q2 =>
      wpAny_mono (ho μ s2 v1 v2 (t1.ext q2.1) (Rp.ext t1.mu72 q2.1 r1) q2.2) (fun v s3 q3 => by
        obtain ⟨q4, q5⟩ := q3
        cases q5
        exact wpAny_truthy_bool ⟨(t1.ext q2.1).ext q4, mv1.trans ((t1.mv (q2.1.trans q4))), rfl⟩) fun _ _ x => x) fun _ _ x => x) fun _ _ x => x) hm
theorem W_if_orF {x y : Expr} {body rest : List Stmt} {bp pos : Pos} {xn : Str} {lv : LV} (h1 : Tst c ρ x false) (h2 : TstO c ρ y xn lv false) (hq : W c (upd ρ xn lv) rest Q) : W c ρ (.If (.BoolOp .Or [x, y] bp) body [] pos :: rest) Q := W_cons fun μ s t =>
  wpAny_If (isTrue_or (wpAny_mono (h1 μ s t) (fun r s1 q1 => by
    obtain ⟨q1, rfl⟩ := q1
    rw [if_neg Bool.false_ne_true]
    have t1 := t.ext q1
    refine isTrue_or (wpAny_mono (h2 μ s1 t1) (fun r s2 q2 => ?_) fun _ _ x => x)
    obtain ⟨t2, mv2, rfl⟩ := q2
    rw [if_neg Bool.false_ne_true]
    refine isTrue_or_nil ?_
    exact wpAny_execs_nil ⟨Out.next _, _, hq, ⟨rfl, t2⟩, (t.mv q1).trans mv2⟩) fun _ _ x => x))


variable {a d p t g : Addr} {rem : List Nat} {ln : Int} {q : List (List Nat)}
theorem EvO_tokP {x : Str} {np apos pos : Pos} {y : List Nat} {pl : Sem Bool} (hx : ρ x = some (MC c.w a d p t g rem ln (y :: q))) (hz : q.length ≤ 1000) (hr : 5 ≤ c.rk) (he : eval (.Call (.Attribute (.Name x np) (Str.ofString "get_token") apos) [] [] pos) c.env = (do
      let ov ← eval (.Name x np) c.env
      standAt apos.atName
      let (f, first) ← holding [ov] (getMethod ov (Str.ofString "get_token") pl)
      callWith pos f first (backTo pos (starEach [] c.env)) []) := by rfl) : EvO c ρ (.Call (.Attribute (.Name x np) (Str.ofString "get_token") apos) [] [] pos) x (MC c.w a d p t g rem ln q) (.str (S y)) :=
  EvO_meth0 (pl := pl) (R := mcR c.w a d p t g rem ln (y :: q)) (v0 := .ref a) (C := 59) (N := 58) (tab := netTab) (l := mcD ln g p) (fd := fdGetToken) hx (fun _ _ _ r => r.inst) (fun _ _ _ r => r.1) mcR_stable (by exact mem_lkA rfl) (by exact mem_lk (by kernel_rfl)) (by exact mem_lk (by kernel_rfl)) (f := 49) (by exact mem_lk (by kernel_rfl)) (by exact mem_lkA rfl) lk_get_token rfl (fn_token_pop c.w a d p t g rem ln q y hz) hr he
theorem EvO_tok0 {x : Str} {np apos pos : Pos} {pl : Sem Bool} (hx : ρ x = some (MC c.w a d p t g rem ln [])) (hz : rem.length ≤ 10000) (hr : 5 ≤ c.rk) (he : eval (.Call (.Attribute (.Name x np) (Str.ofString "get_token") apos) [] [] pos) c.env = (do
      let ov ← eval (.Name x np) c.env
      standAt apos.atName
      let (f, first) ← holding [ov] (getMethod ov (Str.ofString "get_token") pl)
      callWith pos f first (backTo pos (starEach [] c.env)) []) := by rfl) : EvO c ρ (.Call (.Attribute (.Name x np) (Str.ofString "get_token") apos) [] [] pos) x (MC c.w a d p t g (tkF rem ln).2.1 (tkF rem ln).2.2 []) (.str (S (tkF rem ln).1)) :=
  EvO_meth0 (pl := pl) (R := mcR c.w a d p t g rem ln []) (v0 := .ref a) (C := 59) (N := 58) (tab := netTab) (l := mcD ln g p) (fd := fdGetToken) hx (fun _ _ _ r => r.inst) (fun _ _ _ r => r.1) mcR_stable (by exact mem_lkA rfl) (by exact mem_lk (by kernel_rfl)) (by exact mem_lk (by kernel_rfl)) (f := 49) (by exact mem_lk (by kernel_rfl)) (by exact mem_lkA rfl) lk_get_token rfl (fn_token c.w a d p t g rem ln hz) hr he
theorem EvO_pushM {x : Str} {np apos pos : Pos} {e : Expr} {y : List Nat} {pl : Sem Bool} (hx : ρ x = some (MC c.w a d p t g rem ln q)) (h : Ev c ρ e (.str (S y))) (hz : q.length ≤ 1000) (hr : 1 ≤ c.rk) (he : eval (.Call (.Attribute (.Name x np) (Str.ofString "push_token") apos) [e] [] pos) c.env = (do
      let ov ← eval (.Name x np) c.env
      standAt apos.atName
      let (f, first) ← holding [ov] (getMethod ov (Str.ofString "push_token") pl)
      callWith pos f first (backTo pos (starEach [e] c.env)) []) := by rfl) (hst1 : starEach [e] c.env = [(false, eval e c.env)] := by rfl) : EvO c ρ (.Call (.Attribute (.Name x np) (Str.ofString "push_token") apos) [e] [] pos) x (MC c.w a d p t g rem ln (q ++ [y])) .none :=
  EvO_meth1 (pl := pl) (R := mcR c.w a d p t g rem ln q) (v0 := .ref a) (C := 59) (N := 58) (tab := netTab) (l := mcD ln g p) (fd := fdPushToken) hx h (fun _ _ _ r => r.inst) (fun _ _ _ r => r.1) mcR_stable (by exact mem_lkA rfl) (by exact mem_lk (by kernel_rfl)) (by exact mem_lk (by kernel_rfl)) (f := 56) (by exact mem_lk (by kernel_rfl)) (by exact mem_lkA rfl) lk_push_token rfl (fn_push c.w a d p t g rem ln q y hz) hr he hst1
theorem Ev_lineno {x : Str} {np ap : Pos} (hx : ρ x = some (MC c.w a d p t g rem ln q)) (he : eval (.Attribute (.Name x np) (Str.ofString "lineno") ap) c.env = (do
      let o' ← eval (.Name x np) c.env
      standAt ap.atName
      let r ← holding [o'] (getAttr o' (Str.ofString "lineno") true)
      letTemporaryGo (.Name x np) o' r
      pure r) := by with_unfolding_all rfl) : Ev c ρ (.Attribute (.Name x np) (Str.ofString "lineno") ap) (.int ln) :=
  Ev_attrP (P := mcR c.w a d p t g rem ln q) (C := 59) (N := 58) (tab := netTab) (l := mcD ln g p) (EvV_name hx) (fun _ _ _ r => r.inst) (by exact mem_lkA rfl) (by exact mem_lk (by kernel_rfl)) (by exact mem_lk (by kernel_rfl)) lk_lineno rfl he
end
end Mine
end

noncomputable section -- V75
open PySem PyProof.Rows
set_option maxRecDepth 100000
namespace Mine

theorem wp_Subscript_Slice {prog : Program} {w : World} {A : Around} {E : Value → Shared → Prop} {s : Shared} {env : Env} {value : Expr} {lower upper : Option Expr} {p pos : Pos} {T id : String} {Q : Value → Shared → Prop}
    (hl : typeLookup (.type T) "__getitem__" = pure (some (.builtin id)))
    (h : wpAny (model prog w) A (eval value env) (fun o s₁ => wpAny (model prog w) A (eval (.Slice lower upper none p) env) (fun i s₂ => s₂.TypeIs o T ∧ wpAny (model prog w) A (getItem o i) Q E s₂) E s₁) E s) :
    wpAny (model prog w) A (eval (.Subscript value (.Slice lower upper none p) pos) env) Q E s := by
  rw [eval_Subscript]
  refine wpAny_bind (wpAny_mono h (fun o s₁ h₁ => wpAny_bind (wpAny_holding (wpAny_mono h₁ (fun i s₂ h₂ => wpAny_bind (wpAny_standAt ?_)) fun _ _ x => x)))
    fun _ _ x => x)
  have fin : wpAny (model prog w) A (operate [i, o] (getItem o i)) (fun r s₃ => wpAny (model prog w) A (letTemporaryGo value o r >>= fun _ => pure r) Q E s₃) E s₂ :=
    wpAny_operating (wpAny_mono h₂.2 (fun r s₃ h₃ => wpAny_bind (wpAny_letTemporaryGo (wpAny_pure h₃))) fun _ _ x => x)
  first
    | (refine wpAny_bind ?_
       rw [getitemInPython_of_ne h₂.1.not_modules]
       refine wpAny_bind (wpAny_specialOf h₂.1 hl ?_)
       first
         | exact wpAny_pure (wpAny_bind fin)
         | exact wpAny_bind (wpAny_pure (wpAny_bind fin))
         | exact wpAny_bind fin)
    | (refine wpAny_bind (wpAny_specialOf h₂.1 hl ?_)
       first
         | exact wpAny_bind (wpAny_pure (wpAny_bind fin))
         | exact wpAny_bind fin)

section
variable {c : Cx} {ρ : Loc} {μ : Addr → Prop} {s s' : Shared} {Q : Out → Prop}

theorem EvV_slice' {value : Expr} {lower upper : Option Expr} {p pos : Pos} {lo hi : Option Int} {P1 P : VP} {T id : String} (h1 : EvV c ρ value P1) (hl : Pt c ρ lower lo) (hu : Pt c ρ upper hi) (hp : SP c ρ P1) (hT : typeLookup (.type T) "__getitem__" = pure (some (.builtin id)))
    (ho : ∀ μ s v sl a b, StM c μ ρ s → P1 μ s.heap v → s.heap.IsSliceOf sl a b .none → IsPart a lo → IsPart b hi → s.TypeIs v T ∧ wpAny (model PG c.w) c.A (getItem v (.ref sl)) (fun r s' => Ext s s' ∧ P μ s'.heap r) NoE s)
     : EvV c ρ (.Subscript value (.Slice lower upper none p) pos) P := fun μ s t =>
  wp_Subscript_Slice hT (wpAny_mono (h1 μ s t) (fun v s1 q1 => wpAny_Slice (wpAny_mono (hl μ s1 (t.ext q1.1)) (fun a s2 q2 => wpAny_mono (hu μ s2 ((t.ext q1.1).ext q2.1)) (fun b s3 q3 => by
    have x13 := q2.1.trans q3.1
    have x4 := Ext.push s3 { cls := .type "slice", data := .fields #[a, b, .none] } s3.toks
    have t3 := (t.ext q1.1).ext x13
    refine wpAny_pure ?_
    obtain ⟨g1, g2⟩ := ho μ _ v _ a b (t3.ext x4) (hp _ _ _ _ (t.ext q1.1) (x13.trans x4) q1.2) ⟨_, Heap.get?_push_size _ rfl, rfl, rfl⟩ q2.2 q3.2
    exact ⟨g1, wpAny_mono g2 (fun r s5 q5 => ⟨(q1.1.trans (x13.trans x4)).trans q5.1, q5.2⟩) fun _ _ x => x⟩) fun _ _ x => x) fun _ _ x => x)) fun _ _ x => x)

theorem Ev_sliceS' {value : Expr} {lower upper : Option Expr} {p pos : Pos} {lo hi : Option Int} {cs : List Nat} (h1 : Ev c ρ value (.str (S cs))) (hl : Pt c ρ lower lo) (hu : Pt c ρ upper hi) (n1 : nn lo) (n2 : nn hi) (hz : cs.length ≤ 1000000)
     : Ev c ρ (.Subscript value (.Slice lower upper none p) pos) (.str (S (cutL cs lo hi))) :=
  EvV_slice' h1 hl hu (.isD _) F.slot_str_getitem.lookup (fun μ s v sl a b t r hs ha hb => by
    cases r using Rp.elimStr with
    | str tk =>
    refine ⟨typeIs_str _ _ _, ?_⟩
    have key : ∀ (l u : Option (Int × Tok)), l.map (·.1) = lo → u.map (·.1) = hi → s.heap.IsSlice sl l u none → wpAny (model PG c.w) c.A (getItem (.str (S cs) tk) (.ref sl)) (fun r s' => Ext s s' ∧ Rp c.w μ s'.heap r (.str (S (cutL cs lo hi)))) NoE s := by
      intro l u e1 e2 hsl
      refine wpAny_getItem_str_slice hsl rfl (post_val_or_str ⟨Nat.le_trans (Txt.slice_le _ _ _) (by rw [S_length, sizeLine_eq]; (first | lia | omega)), fun t' k => ?_⟩)
      show Ext s { s with toks := k } ∧ Rp c.w μ s.heap (.str (Txt.slice (S cs) (l.map (·.1)) (u.map (·.1))) t') _
      rw [e1, e2, slice_S n1 n2]
      exact ⟨Ext.toks s k, .str _ _⟩
    cases ha with
    | none => cases hb with
      | none => exact key none none rfl rfl hs
      | int j tj => exact key none (some (j, tj)) rfl rfl hs
    | int i ti => cases hb with
      | none => exact key (some (i, ti)) none rfl rfl hs
      | int j tj => exact key (some (i, ti)) (some (j, tj)) rfl rfl hs)

theorem EvF_sliceL' {value : Expr} {lower upper : Option Expr} {p pos : Pos} {lo hi : Option Int} {P1 : VP} {ds : List D} (h1 : EvV c ρ value P1) (k1 : ∀ μ h v, P1 μ h v → lsP c.w ds μ h v) (hl : Pt c ρ lower lo) (hu : Pt c ρ upper hi) (hp : SP c ρ P1) (n1 : nn lo) (n2 : nn hi) (hz : ds.length ≤ 1000)
     : Ev c ρ (.Subscript value (.Slice lower upper none p) pos) (.lst (cutL ds lo hi)) :=
  EvV_slice' h1 hl hu hp slot_list_getitem.lookup (fun μ s v sl a b t r hs ha hb => by
    obtain ⟨l, vs, n, rfl, e, r⟩ := k1 _ _ _ r
    have hl3 : s.heap.IsList l vs := ⟨_, e, rfl, n, rfl⟩
    have hlen : vs.size = ds.length := by rw [← r.length]; simp
    refine ⟨hl3.typeIs, wpAny_getItem_list_slice hl3 hs ha hb .none (by simp) ?_ (by rw [hlen, sizeLine_eq]; (first | lia | omega))⟩
    have x := Ext.push s { cls := .type "list", data := .seq (slicePick vs lo hi none) } s.toks
    exact ⟨x, .lst (fresh_not t (Nat.le_refl _)) (Heap.get?_push_size _ rfl) (by rw [pick_cut n1 n2]; exact RpL.ext t.mu72 x (r.cut lo hi))⟩)

theorem Ev_tup4' {value : Expr} {upper : Expr} {p pos : Pos} {ds : List D} (h1 : Ev c ρ value (.tup ds)) (hu : Ev c ρ upper (.int 4)) (h5 : ds.length = 5)
     : Ev c ρ (.Subscript value (.Slice none (some upper) none p) pos) (.tup (ds.take 4)) :=
  EvV_slice' h1 Pt_none (Pt_some hu) (.isD _) slot_tuple_getitem.lookup (fun μ s v sl a b t r hs ha hb => by
    cases ha; cases hb
    cases r using Rp.elimTup with
    | @tup l vs n ha e r =>
    have hl3 : IsTup s.heap l vs := ⟨_, e, rfl, n, rfl⟩
    have hlen : vs.size = ds.length := by rw [← r.length]; simp
    refine ⟨hl3.typeIs, getItem_tup4 (M := model PG c.w) hl3 hs (by rw [hlen, h5]) ?_⟩
    have x := Ext.push s { cls := .type "tuple", data := .seq (vs.toList.take 4).toArray } s.toks
    exact ⟨x, .tup (fresh_not t (Nat.le_refl _)) (Heap.get?_push_size _ rfl) (RpL.ext t.mu72 x (by simpa using r.take 4))⟩)
end
end Mine
end

noncomputable section -- V8
open PySem PyProof.Rows
set_option maxRecDepth 100000
namespace Mine

noncomputable abbrev Row3 := Nat × List Nat × Int
noncomputable def d0L (xs : List Int) : List Int := (xs.take 4).map fun x => x.fmod 1000000
noncomputable def d1L (xs : List Int) : List Int := d0L xs ++ ([452, 1921, 3658] : List Int).drop (d0L xs).length
noncomputable def rowsOf (xs : List Int) : List Row3 := ([97, 98, 99, 100, 101] : List Nat).zip (([] :: (d1L xs).map leadL).zip ((d1L xs).sum :: d1L xs))
noncomputable def uvw (n : Int) : Str := S [117 + (n.fmod 3).toNat]
noncomputable def ownE (n : Int) : En := ⟨1, n.fmod 7, n.fdiv 64 - 40, n.fmod 11, [(uvw n, (n.fdiv 64).fmod 10)]⟩
noncomputable def ownR (R : List Row3) : List (Str × D) := R.map fun r => (S [r.1], (ownE r.2.2).D)
noncomputable def wordR (r : Row3) : List Nat := r.2.1 ++ [r.1]
noncomputable def txtR : Nat → List Row3 → List Nat
  | _, [] => []
  | k, r :: rs => writtenL (wordR r) (r.2.2.fdiv 1024 + k) ++ txtR (k + 1) rs
noncomputable def nmR (R : List Row3) : List Nat := R.map (·.1)
noncomputable def pairR (R : List Row3) : List (Nat × List Nat) := R.map fun r => (r.1, r.2.1)

theorem txtR_append (k : Nat) : ∀ (l m : List Row3), txtR k (l ++ m) = txtR k l ++ txtR (k + l.length) m
  | [], m => by simp [txtR]
  | r :: l, m => by
    have := txtR_append (k + 1) l m
    simp only [List.cons_append, txtR, this, List.append_assoc, List.length_cons]
    rw [show k + 1 + l.length = k + (l.length + 1) by (first | lia | omega)]
theorem txtR_take {R : List Row3} {i : Nat} {r : Row3} (h : R[i]? = some r) : txtR 0 (R.take (i + 1)) = txtR 0 (R.take i) ++ writtenL (wordR r) (r.2.2.fdiv 1024 + i) := by
  have hi : i < R.length := (List.getElem?_eq_some_iff.mp h).1
  rw [List.take_add_one, h, txtR_append]
  simp [txtR, List.length_take, Nat.min_eq_left (Nat.le_of_lt hi)]
theorem d1L_len (xs : List Int) : (d1L xs).length = 3 ∨ (d1L xs).length = 4 := by
  unfold d1L d0L
  simp only [List.length_append, List.length_map, List.length_take, List.length_drop, List.length_cons, List.length_nil]
  (first | lia | omega)
theorem rowsOf_len (xs : List Int) : (rowsOf xs).length = (d1L xs).length + 1 := by
  have := d1L_len xs
  simp only [rowsOf, List.length_zip, List.length_cons, List.length_nil, List.length_map]
  (first | lia | omega)
theorem zip_fst {α β : Type} : ∀ (l : List α) (m : List β), (l.zip m).map (·.1) = l.take m.length
  | [], m => by simp
  | _ :: _, [] => by simp
  | a :: l, b :: m => by simp [zip_fst l m]
theorem zip_snd {α β : Type} : ∀ (l : List α) (m : List β), (l.zip m).map (·.2) = m.take l.length
  | [], m => by simp
  | _ :: _, [] => by simp
  | a :: l, b :: m => by simp [zip_snd l m]
theorem rowsOf_nm (xs : List Int) : nmR (rowsOf xs) = ([97, 98, 99, 100, 101] : List Nat).take ((d1L xs).length + 1) := by
  unfold nmR rowsOf
  rw [zip_fst]
  simp only [List.length_zip, List.length_cons, List.length_map, Nat.min_self]
theorem rowsOf_ld (xs : List Int) : (rowsOf xs).map (fun r => r.2.1) = [] :: (d1L xs).map leadL := by
  have h := d1L_len xs
  have : (rowsOf xs).map (fun r => r.2.1) = ((rowsOf xs).map (·.2)).map (·.1) := by rw [List.map_map]; rfl
  rw [this]
  unfold rowsOf
  rw [zip_snd, List.map_take, zip_fst, List.take_take, List.take_of_length_le]
  simp only [List.length_cons, List.length_map, List.length_nil]; (first | lia | omega)
theorem rowsOf_dr (xs : List Int) : (rowsOf xs).map (fun r => r.2.2) = (d1L xs).sum :: d1L xs := by
  have h := d1L_len xs
  have : (rowsOf xs).map (fun r => r.2.2) = ((rowsOf xs).map (·.2)).map (·.2) := by rw [List.map_map]; rfl
  rw [this]
  unfold rowsOf
  rw [zip_snd, List.map_take, zip_snd, List.take_take, List.take_of_length_le]
  simp only [List.length_cons, List.length_map, List.length_nil]; (first | lia | omega)
theorem leadL_len (n : Int) : (leadL n).length ≤ 4 := by
  unfold leadL
  rw [List.length_map, List.length_range]
  have := Int_fmod_lt n (b := 4) (by decide)
  (first | lia | omega)
theorem rowsOf_lead (xs : List Int) : ∀ r ∈ rowsOf xs, r.2.1 = [] ∨ ∃ n, r.2.1 = leadL n := fun r hr => by
  have : r.2.1 ∈ (rowsOf xs).map (fun r => r.2.1) := List.mem_map.mpr ⟨r, hr, rfl⟩
  rw [rowsOf_ld] at this
  rcases List.mem_cons.mp this with h | h
  · exact .inl h
  · obtain ⟨n, _, e⟩ := List.mem_map.mp h
    exact .inr ⟨n, e.symm⟩

structure RowsOk (R : List Row3) : Prop where
  len : R.length = 4 ∨ R.length = 5
  nm : nmR R = ([97, 98, 99, 100, 101] : List Nat).take R.length
  ld : ∀ r ∈ R, r.2.1 = [] ∨ ∃ n, r.2.1 = leadL n
theorem rowsOf_ok (xs : List Int) : RowsOk (rowsOf xs) := ⟨by rw [rowsOf_len]; have := d1L_len xs; (first | lia | omega), by rw [rowsOf_nm, rowsOf_len], rowsOf_lead xs⟩
theorem RowsOk.ld4 {R : List Row3} (h : RowsOk R) : ∀ r ∈ R, r.2.1.length ≤ 4 := fun r hr => by
  rcases h.ld r hr with e | ⟨n, e⟩
  · rw [e]; simp
  · rw [e]; exact leadL_len n
theorem RowsOk.nd {R : List Row3} (h : RowsOk R) : (nmR R).Nodup := by
  rw [h.nm]
  exact (show ([97, 98, 99, 100, 101] : List Nat).Nodup by decide).sublist (List.take_sublist _ _)
theorem two_sum : ∀ l : List Nat, (l.map fun n => ([92, n] : List Nat).length).sum = 2 * l.length
  | [] => rfl
  | a :: l => by
    have := two_sum l
    rw [List.map_cons, List.sum_cons, this, List.length_cons]; simp; (first | lia | omega)
theorem written_len (l : List Nat) (m : Int) (h : l.length ≤ 5) : (writtenL l m).length ≤ 15 := by
  unfold writtenL
  split
  · simp; (first | lia | omega)
  · simp only [List.length_append, List.length_flatMap]
    have := two_sum l
    rw [this]; simp; (first | lia | omega)
theorem txtR_len {R : List Row3} (h : ∀ r ∈ R, r.2.1.length ≤ 4) : ∀ (k : Nat), (txtR k R).length ≤ 15 * R.length := by
  induction R with
  | nil => intro k; simp [txtR]
  | cons r R ih =>
    intro k
    have h1 := ih (fun x hx => h x (List.mem_cons_of_mem _ hx)) (k + 1)
    have h2 := written_len (wordR r) (r.2.2.fdiv 1024 + k) (by have := h r List.mem_cons_self; simp [wordR]; (first | lia | omega))
    simp only [txtR, List.length_append, List.length_cons]; (first | lia | omega)

noncomputable def lawCx (w : World) (A : Around) (s : Shared) (μ : Addr → Prop) : Cx := callCxS w A 6 fdLaw 184 s μ [145]
noncomputable def law1 : List Stmt := (bodyOf (topSt 15)).take 8
theorem Storable_law {w : World} {A : Around} {s : Shared} {μ : Addr → Prop} {x : Str} (hk : fdLaw.scope.names.lookup x = some .cell) (hok : okName x = true) : Storable (lawCx w A s μ) x := Storable_cell (w := w) (A := A) (n := 6) (fd := fdLaw) (a := 184) (s := s) (μ := μ) hk hok

structure St1 (w : World) (R : List Row3) (a : Addr) (i : Nat) (ρ : Loc) : Prop where
  h1 : ρ "draws" = some (.fz (.lst (R.map fun r => .int r.2.2)))
  h2 : ρ "names" = some (.fz (.str (S (nmR R))))
  h3 : ρ "leads" = some (.fz (.lst (R.map fun r => .str (S r.2.1))))
  h4 : ρ "own" = some (OD w a (ownR (R.take i)))
  h5 : ρ "text" = some (.fz (.str (S (txtR 0 (R.take i)))))
set_option maxHeartbeats 4000000 in
theorem law_1 {w : World} {A : Around} {s : Shared} {μ : Addr → Prop} {xs : List Int} {ρ : Loc} (hx : ρ "script" = some (.fz (.lst (xs.map .int)))) (hl : xs.length ≤ 63) :
    W ((lawCx w A s μ).guard 145) ρ law1 (fun o => ∃ ρ', o = .next ρ' ∧ ρ' "draws" = some (.fz (.lst ((rowsOf xs).map fun r => .int r.2.2))) ∧ ρ' "names" = some (.fz (.str (S (nmR (rowsOf xs))))) ∧ ρ' "leads" = some (.fz (.lst ((rowsOf xs).map fun r => .str (S r.2.1)))) ∧
      ρ' "own" = some (.fz (.dct (ownR (rowsOf xs)))) ∧ ρ' "text" = some (.fz (.str (S (txtR 0 (rowsOf xs)))))) := by
  have hSt : ∀ x, fdLaw.scope.names.lookup x = some .cell → okName x = true → Storable (lawCx w A s μ) x := fun x h1 h2 => Storable_law h1 h2
  have n4 : nn (some 4) := fun i e => by cases e; decide
  have n0 : nn none := fun i e => by cases e
  refine W_assign_listcomp (ds := cutL (xs.map .int) none (some 4)) (P1 := isD w (.lst (cutL (xs.map .int) none (some 4)))) (fun _ => true) (fun d => match d with | .int z => .int (z.fmod 1000000) | _ => .none) (EvF_sliceL' (P1 := isD w (.lst (xs.map .int))) (Ev_name hx) (fun _ _ _ => lsP.fz) Pt_none (Pt_some Ev_int) (.isD _) n0 n4 (by rw [List.length_map]; (first | lia | omega))) Itb.list (fun C s μ j d hd => ?_) ?_ rfl rfl (by decide) rfl rfl (by decide) ⟨rfl, .inl rfl⟩ rfl ?_
  · have : d ∈ xs.map D.int := by
      have := List.mem_of_getElem? hd
      unfold cutL at this
      exact List.mem_of_mem_take (List.mem_of_mem_drop this)
    obtain ⟨z, _, rfl⟩ := List.mem_map.mp this
    exact ⟨TstL_nil, fun _ => Ev_fmod (b := 1000000) (Ev_name compLoc_x) (Ev_pow (a := 10) (n := 6) Ev_int Ev_int (by decide) (by decide +kernel)) (by decide)⟩
  · unfold cutL; rw [List.length_drop, List.length_take, List.length_map, sizeLine_eq]; (first | lia | omega)
  have e0 : D.lst (((cutL (xs.map D.int) none (some 4)).filter fun _ => true).map fun d => match d with | .int z => .int (z.fmod 1000000) | _ => .none) = .lst ((d0L xs).map .int) := by
    rw [List.filter_eq_self.mpr (fun _ _ => rfl)]
    unfold cutL d0L cutB
    rw [List.drop_zero, List.length_map, ← List.map_take, List.map_map, List.map_map]
    congr 1
    have : xs.take (min (4 : Int).toNat xs.length) = xs.take 4 := by
      show xs.take (min 4 xs.length) = _
      rw [← List.take_take, List.take_length]
    rw [this]; rfl
  rw [e0]
  have l0 : (d0L xs).length ≤ 4 := by unfold d0L; rw [List.length_map, List.length_take]; (first | lia | omega)
  refine W_assign (EvF.ev (EvF.eq (EvF_cat (P1 := isD w (.lst ((d0L xs).map .int))) (P2 := isD w (.lst (cutL [.int 452, .int 1921, .int 3658] (some (d0L xs).length) none))) (Ev_name rfl)
    (EvF_sliceL' (P1 := isD w (.lst [.int 452, .int 1921, .int 3658])) (Ev_lst (EvL_cons Ev_int (EvL_cons Ev_int (EvL_cons Ev_int EvL_nil)))) (fun _ _ _ => lsP.fz) (Pt_some (i := (d0L xs).length) (EvV_b1 (Ev_name (d := .lst ((d0L xs).map .int)) rfl) ?_ (by decide) boot_len rfl)) Pt_none (.isD _) (fun i e => by cases e; (first | lia | omega)) n0 (by decide)) (.isD _) (fun _ _ _ => lsP.fz) (fun _ _ _ => lsP.fz) ?_) (ds' := (d1L xs).map .int) ?_)) ⟨rfl, .inl rfl⟩ ?_
  · have := Op1.lenL (c := (lawCx w A s μ).guard 145) (ρ := upd ρ (Str.ofString "draws") (.fz (.lst ((d0L xs).map .int)))) (ds := (d0L xs).map .int) (by rw [List.length_map]; (first | lia | omega))
    rw [List.length_map] at this
    exact this
  · unfold cutL; rw [List.length_map, List.length_drop, List.length_take, sizeLine_eq]; simp; (first | lia | omega)
  · unfold d1L cutL cutB
    rw [List.map_append, List.map_drop]
    congr 1
    show ([D.int 452, .int 1921, .int 3658].take 3).drop (min ((d0L xs).length : Int).toNat 3) = _
    rw [Int.toNat_natCast]
    generalize (d0L xs).length = n
    match n with
    | 0 => rfl
    | 1 => rfl
    | 2 => rfl
    | n + 3 => rw [show min (n + 3) 3 = 3 by (first | lia | omega)]; simp
  have l1 := d1L_len xs
  refine W_assign (EvF.ev (EvF.eq (EvF_cat (P1 := isD w (.lst [.int (d1L xs).sum])) (P2 := isD w (.lst ((d1L xs).map .int))) (EvF.ev (EvF_lst (EvL_cons (EvV_b1 (P1 := isD w (.lst ((d1L xs).map .int))) (Ev_name rfl) .sum (by decide) boot_sum rfl) EvL_nil) (by show 1 ≤ sizeLine; decide))) (Ev_name rfl) (.isD _) (fun _ _ _ => lsP.fz) (fun _ _ _ => lsP.fz) ?_) (ds' := (rowsOf xs).map fun r => .int r.2.2) ?_)) ⟨rfl, .inl rfl⟩ ?_
  · rw [List.length_map, sizeLine_eq]; simp; (first | lia | omega)
  · have := rowsOf_dr xs
    have e : ((rowsOf xs).map fun r => D.int r.2.2) = ((rowsOf xs).map fun r => r.2.2).map .int := by rw [List.map_map]; rfl
    rw [e, this]; rfl
  have hR := rowsOf_ok xs
  have hRl : (rowsOf xs).length = 4 ∨ (rowsOf xs).length = 5 := hR.len
  refine W_assign (Ev.eq (Ev_sliceS' (cs := [97, 98, 99, 100, 101]) (Ev.eq Ev_str (by rfl)) Pt_none (Pt_some (i := (rowsOf xs).length) (EvV_b1 (Ev_name (d := .lst ((rowsOf xs).map fun r => .int r.2.2)) rfl) ?_ (by decide) boot_len rfl)) n0 (fun i e => by cases e; (first | lia | omega)) (by decide)) (d' := .str (S (nmR (rowsOf xs)))) ?_) ⟨rfl, .inl rfl⟩ ?_
  · have := Op1.lenL (c := (lawCx w A s μ).guard 145) (ρ := upd (upd (upd ρ (Str.ofString "draws") (.fz (.lst ((d0L xs).map .int)))) (Str.ofString "draws") (.fz (.lst ((d1L xs).map .int)))) (Str.ofString "draws") (.fz (.lst ((rowsOf xs).map fun r => .int r.2.2)))) (ds := (rowsOf xs).map fun r => .int r.2.2) (by rw [List.length_map]; (first | lia | omega))
    rw [List.length_map] at this
    exact this
  · rw [hR.nm]
    unfold cutL cutB
    congr 2
    show (([97, 98, 99, 100, 101] : List Nat).take (min ((rowsOf xs).length : Int).toNat 5)).drop 0 = _
    rw [List.drop_zero, Int.toNat_natCast, Nat.min_eq_left (by (first | lia | omega))]
  refine W_assign (EvF.ev (EvF.eq (EvF_cat (P1 := isD w (.lst [.str (S [])])) (P2 := isD w (.lst ((d1L xs).map fun n => .str (leadF n)))) (EvF.ev (EvF_lst (EvL_cons (Ev.eq Ev_str rfl) EvL_nil))) (Ev.eq (Ev_listcomp (ds := (d1L xs).map .int) (P1 := isD w (.lst ((d1L xs).map .int))) (fun _ => true) (fun d => match d with | .int n => .str (leadF n) | _ => .none) (Ev.eq (EvF_sliceL' (P1 := isD w (.lst ((rowsOf xs).map fun r => .int r.2.2))) (Ev_name rfl) (fun _ _ _ => lsP.fz) (Pt_some (i := 1) Ev_int) Pt_none (.isD _) (fun i e => by cases e; decide) n0 ?_) ?_) Itb.list (fun C s μ j d hd => ?_) ?_ rfl rfl (by decide) rfl rfl (by decide)) ?_) (.isD _) (fun _ _ _ => lsP.fz) (fun _ _ _ => lsP.fz) ?_) (ds' := (rowsOf xs).map fun r => .str (S r.2.1)) ?_)) ⟨rfl, .inl rfl⟩ ?_
  · rw [List.length_map]; (first | lia | omega)
  · unfold cutL cutB
    have e : ((rowsOf xs).map fun r => D.int r.2.2) = ((rowsOf xs).map fun r => r.2.2).map .int := by rw [List.map_map]; rfl
    rw [e, rowsOf_dr]
    congr 1
    rw [List.take_length]
    show (((d1L xs).sum :: d1L xs).map D.int).drop (min 1 _) = _
    rw [Nat.min_eq_left (by simp)]; rfl
  · rw [List.getElem?_map] at hd
    cases hj : (d1L xs)[j]? with
    | none => rw [hj] at hd; cases hd
    | some n =>
      rw [hj] at hd; cases hd
      exact ⟨TstL_nil, fun _ => Ev_call (ds := [.int n]) (fn_lead w) (by exact mem_lk (by kernel_rfl)) (fd := fdLead) (by exact mem_lkA rfl) rfl (EvL_cons (Ev_name compLoc_x) EvL_nil) ⟨n, rfl, rfl⟩ (by show 1 ≤ 6; decide)⟩
  · rw [List.length_map, sizeLine_eq]; (first | lia | omega)
  · rw [List.filter_eq_self.mpr (fun _ _ => rfl), List.map_map]; rfl
  · rw [List.length_map, sizeLine_eq]; simp; (first | lia | omega)
  · have e : ((rowsOf xs).map fun r => D.str (S r.2.1)) = ((rowsOf xs).map fun r => r.2.1).map fun l => .str (S l) := by rw [List.map_map]; rfl
    rw [e, rowsOf_ld, List.map_cons, List.map_map]; rfl
  refine W_newdict (hSt _ rfl rfl) fun a => ?_
  refine W_assign (d := .str (S [])) (Ev.eq Ev_str rfl) ⟨rfl, .inl rfl⟩ ?_
  generalize rowsOf xs = R at *
  refine W_for (ds := rngD 0 R.length) (P1 := isRng 0 R.length) (St1 w R a)
    (EvV_t1 (P1 := isD w (.int R.length)) (EvV_b1 (P1 := isD w (.lst (R.map fun r => .int r.2.2))) (Ev_name rfl) (P := isD w (.int R.length)) ?_ (by decide) boot_len rfl) .rng (by decide) boot_range rfl) (Itb.rng (by (first | lia | omega)) (by (first | lia | omega)) (by (first | lia | omega)) (by (first | lia | omega))) ⟨rfl, .inl rfl⟩ ⟨rfl, rfl, rfl, rfl, rfl⟩ ?_ ?_
  · intro μ' s' v t r
    have := Op1.lenL (c := (lawCx w A s μ).guard 145) (ds := R.map fun r : Row3 => D.int r.2.2) (by rw [List.length_map]; (first | lia | omega)) μ' s' v t r
    rw [List.length_map] at this
    exact this
  · intro i d ρ g hd K
    obtain ⟨hi, rfl⟩ := rngD_get0 hd
    have hi' : i < R.length := by simpa using hi
    have hRi : R[i]? = some R[i] := by simp [hi']
    generalize R[i] = r at hRi
    have hr4 : r.2.1.length ≤ 4 := hR.ld4 r (List.mem_of_getElem? hRi)
    have hnm : (seqIndex? (i : Int) (S (nmR R)).length).bind ((S (nmR R)).cps[·]?) = some r.1 := by
      rw [seqIdx_pos (by (first | lia | omega)) (by rw [S_length, nmR, List.length_map]; (first | lia | omega))]
      show (S (nmR R)).cps[(i : Int).toNat]? = _
      rw [← Array.getElem?_toList, S_cps, nmR, List.getElem?_map, Int.toNat_natCast, hRi]; rfl
    have hnd : (nmR R).Nodup := hR.nd
    have eo : ownR (R.take (i + 1)) = ownR (R.take i) ++ [(S [r.1], (ownE r.2.2).D)] := by
      unfold ownR; rw [List.take_add_one, hRi, List.map_append]; rfl
    have hnk : S [r.1] ∉ (ownR (R.take i)).map (·.1) := by
      intro z
      have e : (ownR (R.take i)).map (·.1) = (nmR (R.take i)).map fun n => S [n] := by unfold ownR nmR; rw [List.map_map, List.map_map]; rfl
      rw [e] at z
      obtain ⟨n, hn, e⟩ := List.mem_map.mp z
      have e := S_one_inj e
      have : nmR (R.take (i + 1)) = nmR (R.take i) ++ [r.1] := by unfold nmR; rw [List.take_add_one, hRi, List.map_append]; rfl
      have hz5 : (nmR (R.take (i + 1))).Nodup := hnd.sublist ((List.take_sublist _ _).map _)
      rw [this, List.nodup_append] at hz5
      exact hz5.2.2 n hn _ (List.mem_singleton.mpr rfl) e
    have h3m := Int_fmod_lt r.2.2 (b := 3) (by decide)
    have huvw : (seqIndex? (r.2.2.fmod 3) (S [117, 118, 119]).length).bind ((S [117, 118, 119]).cps[·]?) = some (117 + (r.2.2.fmod 3).toNat) := by
      rw [seqIdx_pos h3m.1 (by rw [S_length]; simp; (first | lia | omega))]
      generalize r.2.2.fmod 3 = z at *
      have : z = 0 ∨ z = 1 ∨ z = 2 := by (first | lia | omega)
      rcases this with rfl | rfl | rfl <;> rfl
    refine W_assign (EvV_sub (P2 := isD _ (.int i)) (Ev_name K.h1) (Ev_name rfl) (.isD _) (.itemL (d := .int r.2.2) rfl (by (first | lia | omega)) (by (first | lia | omega)) (by rw [Int.toNat_natCast, List.getElem?_map, hRi]; rfl))) ⟨rfl, .inl rfl⟩ ?_
    refine W_assign (Ev_dict1 (k := uvw r.2.2) (d := .int ((r.2.2.fdiv 64).fmod 10)) (EvV_sub (P1 := isD _ (.str (S [117, 118, 119]))) (P2 := isD _ (.int (r.2.2.fmod 3))) (Ev.eq Ev_str rfl) (Ev_fmod (b := 3) (Ev_name rfl) Ev_int (by decide)) (.isD _) (.itemS rfl (by (first | lia | omega)) (by (first | lia | omega)) huvw)) (Ev_fmod (b := 10) (Ev_fdiv (b := 64) (Ev_name (d := .int r.2.2) rfl) Ev_int (by decide) (by decide)) Ev_int (by decide))) ⟨rfl, .inl rfl⟩ ?_
    refine W_setitem (x := "own") (a := a) (l := ownR (R.take i)) (k := S [r.1]) (d := (ownE r.2.2).D) K.h4 (Ev_tup (ds := [.int 1, .int (r.2.2.fmod 7), .int (r.2.2.fdiv 64 - 40), .int (r.2.2.fmod 11), .dct [(uvw r.2.2, .int ((r.2.2.fdiv 64).fmod 10))]]) (EvL_cons Ev_int (EvL_cons (Ev_fmod (b := 7) (Ev_name rfl) Ev_int (by decide)) (EvL_cons (Ev_sub (Ev_fdiv (b := 64) (Ev_name (d := .int r.2.2) rfl) Ev_int (by decide) (by decide)) Ev_int) (EvL_cons (Ev_fmod (b := 11) (Ev_name rfl) Ev_int (by decide)) (EvL_cons (Ev_name rfl) EvL_nil))))) (by show 5 ≤ sizeLine; decide))
      (EvV_sub (P2 := isD _ (.int i)) (Ev_name K.h2) (Ev_name rfl) (.isD _) (.itemS rfl (by (first | lia | omega)) (by (first | lia | omega)) hnm)) ?_ ?_
    · unfold ownR; rw [List.length_map, List.length_take]; (first | lia | omega)
    have hwl : (wordR r).length ≤ 5 := by unfold wordR; simp; (first | lia | omega)
    have htl : (txtR 0 (R.take i)).length ≤ 75 := by
      have := txtR_len (R := R.take i) (fun x hx => hR.ld4 x (List.mem_of_mem_take hx)) 0
      rw [List.length_take] at this; (first | lia | omega)
    refine W_assign (d := .str (S (txtR 0 (R.take (i + 1))))) (Ev.eq (Ev_cat (a := S (txtR 0 (R.take i))) (b := S (writtenL (wordR r) (r.2.2.fdiv 1024 + i))) (Ev_name K.h5) (Ev_call (ds := [.str (S (wordR r)), .int (r.2.2.fdiv 1024 + i)]) (fn_written w) (by exact mem_lk (by kernel_rfl)) (fd := fdWritten) (by exact mem_lkA rfl) rfl (EvL_cons (Ev.eq (Ev_cat (a := S r.2.1) (b := S [r.1]) (EvV_sub (P2 := isD _ (.int i)) (Ev_name K.h3) (Ev_name rfl) (.isD _) (.itemL rfl (by (first | lia | omega)) (by (first | lia | omega)) (by rw [Int.toNat_natCast, List.getElem?_map, hRi]; rfl))) (EvV_sub (P2 := isD _ (.int i)) (Ev_name K.h2) (Ev_name rfl) (.isD _) (.itemS rfl (by (first | lia | omega)) (by (first | lia | omega)) hnm)) ?_) (by rw [S_append]; rfl)) (EvL_cons (Ev_add (Ev_fdiv (b := 1024) (Ev_name (d := .int r.2.2) rfl) Ev_int (by decide) (by decide)) (Ev_name (d := .int i) rfl)) EvL_nil)) ⟨wordR r, r.2.2.fdiv 1024 + i, rfl, by (first | lia | omega), rfl⟩ (by show 1 ≤ 6; decide)) ?_) ?_) ⟨rfl, .inl rfl⟩ (W_nil ⟨K.h1, K.h2, K.h3, ?_, rfl⟩)
    · rw [S_length, S_length, sizeLine_eq]; simp; (first | lia | omega)
    · have := written_len (wordR r) (r.2.2.fdiv 1024 + i) hwl
      rw [S_length, S_length, sizeLine_eq]; (first | lia | omega)
    · rw [S_append, txtR_take hRi]
    · rw [eo, ← putD_new hnk]; rfl
  · intro ρ K
    have h4 := K.h4
    have h5 := K.h5
    rw [rngD_len] at h4 h5
    have e1 : R.take ((R.length : Int) - 0).toNat = R := by rw [Int.sub_zero, Int.toNat_natCast, List.take_length]
    rw [e1] at h4 h5
    exact W_freezeDB (x := "own") (fun b hb hS => absurd (List.mem_singleton.mp hS ▸ hb : Big 145) (by decide)) h4 (W_nil ⟨_, rfl, K.h1, K.h2, K.h3, rfl, h5⟩)
end Mine
end

noncomputable section -- V9
open PySem PyProof.Rows
set_option maxRecDepth 100000
namespace Mine

section
variable {c : Cx} {ρ : Loc} {μ : Addr → Prop} {s s' : Shared} {Q : Out → Prop}

theorem execs_app (env : Env) (ys : List Stmt) : ∀ xs : List Stmt, execs (xs ++ ys) env = (do match ← execs xs env with | .next => execs ys env | f => pure f)
  | [] => by
    show execs ys env = _
    rw [show execs [] env = pure Flow.next from rfl, pure_bind]
  | x :: xs => by
    rw [List.cons_append, execs_cons, execs_cons, bind_assoc]
    congr 1
    funext f
    cases f with
    | next => exact execs_app env ys xs
    | brk => rw [pure_bind]
    | cont => rw [pure_bind]
    | ret v => rw [pure_bind]
theorem wp_execs_append {M : Model} {A : Around} {E : Value → Shared → Prop} {env : Env} {xs ys : List Stmt} {s : Shared} {Q : Flow → Shared → Prop} (h : wpAny M A (execs xs env) (fun f s' => match f with | .next => wpAny M A (execs ys env) Q E s' | f => Q f s') E s) : wpAny M A (execs (xs ++ ys) env) Q E s := by
  rw [execs_app]
  refine wpAny_bind (wpAny_mono h (fun f s' q => ?_) fun _ _ x => x)
  cases f with
  | next => exact q
  | brk => exact wpAny_pure q
  | cont => exact wpAny_pure q
  | ret v => exact wpAny_pure q

theorem StM.take145 {L : List Addr} (t : StM c μ ρ s) (e : ExtS [145] s s') (h145 : μ 145) (hS : c.S 145) (hL : ∀ b ∈ L, s.heap.objs.size ≤ b ∧ ∃ o, s'.heap.get? b = some o) : StM c (fun b => μ b ∨ b ∈ L) ρ s' := by
  have nB : ∀ b : Addr, Big b → b ≠ 145 := fun b hb z => absurd (z ▸ hb) (by decide)
  have n72 : ∀ b : Addr, Big b → b ≠ 72 := fun b hb z => absurd (z ▸ hb) (by decide)
  have k : ∀ b o, b ≠ 72 → b ≠ 145 → s.heap.get? b = some o → s'.heap.get? b = some o := fun b o h1 h2 ee => e.keep b o ee h1 (by simpa using h2)
  refine ⟨t.room, t.g.mod (fun b o hb' n n145 ee => k b o n n145 ee) e.tab, fun b o ee n n' => k b o n' (fun z => n (z ▸ hS)) (t.keep b o ee n n'), e.os.trans t.os, fun q => e.bare (t.bare q), fun a q => .inl (t.mu0 a q), t.mu0lt, fun a q => q.elim (t.mu1 a) fun z => .inr (Nat.le_trans t.size (hL a z).1), ?_, .inl t.mu72,
    fun a q => q.elim (t.ge a) fun z => .inl (Nat.le_trans t.g.size (hL a z).1), t.pr72, fun a q => .inl (t.prM a q), ?_⟩
  · rintro a (q | q)
    · by_cases h : a = 145
      · exact h ▸ e.live 145 (by simp)
      · by_cases h72 : a = 72
        · subst h72
          obtain ⟨ps, _, y⟩ := e.tab
          exact ⟨_, y.2⟩
        · obtain ⟨o, ee⟩ := t.live a q
          exact ⟨o, k a o h72 h ee⟩
    · exact (hL a q).2
  · refine t.frame.move (fun _ q => .inl q) (fun a o ee n => ?_) fun b o hc ee => ?_
    · rintro (z | z)
      · exact n z
      · exact Nat.not_lt.mpr (hL a z).1 (Heap.lt_size ee)
    · have : b ≠ 72 ∧ b ≠ 145 := by
        rcases hc with hc | hc | ⟨y, l, e1, e2⟩
        · exact ⟨fun z => hc (z ▸ t.mu72), fun z => hc (z ▸ h145)⟩
        · exact ⟨n72 b (t.frame.big b hc), nB b (t.frame.big b hc)⟩
        · have := ((t.frame.own y l e1).2.2 _ e2).2.2.2.2
          exact ⟨n72 b this, nB b this⟩
      exact k b o this.1 this.2 ee

theorem wp_machine {x : Str} {np p pos ap : Pos} {e : Expr} {cs : List Nat} {rest : List Stmt} (t : StM c μ ρ s) (h145 : μ 145) (hS : c.S 145) (hpr : ¬ c.pr 145) (ht : s.heap.get? 145 = some (PySem.W.tabObj #[])) (he : Ev c ρ e (.str (S cs))) (hc : cs.length ≤ 10000) (hx : Storable c x) (hr : 4 ≤ c.rk)
    (hk : c.env.kindOf (Str.ofString "_law_machine") = some .globalImplicit)
    {P : Flow → Shared → Prop} (hq : ∀ a d p t g μ' s', StM c μ' (upd ρ x (MC c.w a d p t g cs 1 [])) s' → Mv c μ μ' s s' → μ' 145 → (∃ ws, s'.heap.get? 145 = some (PySem.W.tabObj ws)) → wpAny (model PG c.w) c.A (execs rest c.env) P NoE s')
    (hs : swapsWith (.Call (.Name (Str.ofString "_law_machine") np) [e] [] pos) (some (.Name x p)) ap.line c.env = pure false := by rfl) (hst : starEach [e] c.env = [(false, eval e c.env)] := by rfl) :
    wpAny (model PG c.w) c.A (execs (.Assign [.Name x p] (.Call (.Name (Str.ofString "_law_machine") np) [e] [] pos) ap :: rest) c.env) P NoE s := by
  refine wpAny_execs_cons (wpAny_Assign_Name (Call_ (wpAny_mono (EvV_glob (x := Str.ofString "_law_machine") (v := .ref 150) (by exact mem_lk (by kernel_rfl)) hk (by decide) μ s t) (fun v s1 q => ?_) fun _ _ x => x)) hs)
  obtain ⟨q1, rfl⟩ := q
  refine callWith_def (o := fnObj fdMachine) (fd := fdMachine) rfl (wpAny_mono (EvL_cons (pos := pos) he EvL_nil hst μ s1 (t.ext q1)) (fun vs s2 q2 => ?_) fun _ _ x => x) hst
  have t2 := (t.ext q1).ext q2.1
  have x02 := q1.trans q2.1
  have ht2 : s2.heap.get? 145 = some (PySem.W.tabObj #[]) := x02.keep _ _ ht (by decide)
  obtain ⟨_, rv⟩ := q2
  cases rv using RpL.elimCons with
  | cons r1 r2 => cases r2; cases r1 using Rp.elimStr with
  | str tk =>
  refine ⟨(t2.g.fns (150, fdMachine) (by exact mem_lkA rfl)).1, wpAny_call (codeAny_mono (fn_machine (t2.room.le hr) t2.g t2.muOk h145 ht2 hc) fun r s3 q3 => ?_)⟩
  cases r with
  | error _ => exact q3.elim
  | ok f =>
  cases f with
  | next => exact q3.elim
  | brk => exact q3.elim
  | cont => exact q3.elim
  | ret v =>
  obtain ⟨a, d, p, tt, g, rfl, ⟨ws, hws⟩, hE, hnd, hL, hm⟩ := q3
  have t3 := t2.take145 (L := [a, d, p, tt]) hE h145 hS fun b hb => ⟨(hL b hb).1, (hL b hb).2.2⟩
  have nμ : ∀ b ∈ [a, d, p, tt], ¬ μ b := fun b hb => fresh_not t2 (hL b hb).1
  have mv3 : Mv c μ (fun b => μ b ∨ b ∈ [a, d, p, tt]) s s3 := (t.mv x02).trans ⟨fun b o n ee => hE.keep b o ee (fun z => n.elim (fun n => n (z ▸ t.mu72)) fun n => t.pr72 (z ▸ n)) (fun z => by
      have z := List.mem_singleton.mp z
      exact n.elim (fun n => n (z ▸ h145)) fun n => hpr (z ▸ n)), fun b o ee n z => z.elim n fun z => Nat.not_lt.mpr (hL b z).1 (Heap.lt_size ee)⟩
  have hh : Held c (fun b => μ b ∨ b ∈ [a, d, p, tt]) ρ x (MC c.w a d p tt g cs 1 []) := ⟨mcR_stable, hnd, fun b hb => ⟨.inr hb, fun z => nμ b hb (t2.fpM b z), fun z => nμ b hb (t2.prM b z), .inl (Nat.le_trans t2.size (hL b hb).1), (hL b hb).2.1⟩,
    fun y k ey _ b hb hb' => nμ b hb ((t2.frame.own y k ey).2.2 b hb').1⟩
  refine wp_store' t3 hx hh hm fun s4 t4 mv4 hk4 => ?_
  have n145 : (145 : Addr) ∉ c.fp := fun z => absurd (t3.frame.big _ z) (by decide)
  exact hq a d p tt g _ s4 t4 (mv3.trans mv4) (.inl h145) ⟨ws, hk4 _ _ n145 hws⟩
end
end Mine
end

noncomputable section -- V10
open PySem PyProof.Rows
set_option maxRecDepth 100000
namespace Mine

noncomputable def wordOk (n : Nat) : Prop := n ≠ 10 ∧ n ≠ 34 ∧ n ≠ 92
theorem lnUp_ne {l : Int} {c : Nat} (h : c ≠ 10) : lnUp l [c] = l := by simp [lnUp, h]
theorem tkQ_word : ∀ (w tok X : List Nat) (ln : Int), (∀ n ∈ w, wordOk n) → tkQ tok (w ++ 34 :: X) ln = (tok ++ w, X, ln)
  | [], tok, X, ln, _ => by
    show tkQ tok (34 :: X) ln = _
    rw [tkQ.eq_def]
    simp [lnUp]
  | c :: w, tok, X, ln, h => by
    obtain ⟨h1, h2, h3⟩ := h c List.mem_cons_self
    show tkQ tok (c :: (w ++ 34 :: X)) ln = _
    rw [tkQ.eq_def]
    simp only [if_neg h2, if_neg h3, lnUp_ne h1]
    rw [tkQ_word w (tok ++ [c]) X ln fun n hn => h n (List.mem_cons_of_mem _ hn)]
    simp
theorem tkB_word : ∀ (w tok X : List Nat) (ln : Int), (∀ n ∈ w, wordOk n) → tkB tok (w.flatMap (fun n => [92, n]) ++ 32 :: X) ln = (tok ++ w, X, ln)
  | [], tok, X, ln, _ => by
    show tkB tok (32 :: X) ln = _
    rw [tkB.eq_def]
    simp [lnUp, isWs]
  | c :: w, tok, X, ln, h => by
    obtain ⟨h1, h2, h3⟩ := h c List.mem_cons_self
    show tkB tok (92 :: c :: (w.flatMap (fun n => [92, n]) ++ 32 :: X)) ln = _
    rw [tkB.eq_def]
    simp only [if_neg (show ¬ isWs 92 = true by decide), if_pos, lnUp_ne h1, lnUp_ne (show (92 : Nat) ≠ 10 by decide)]
    rw [tkB_word w (tok ++ [c]) X ln fun n hn => h n (List.mem_cons_of_mem _ hn)]
    simp
noncomputable def sepM (m : Int) : List Nat := if m.fmod 2 = 0 then [10] else []
theorem tkF_word {w : List Nat} {m : Int} {X : List Nat} {ln : Int} (hne : w ≠ []) (h : ∀ n ∈ w, wordOk n) : tkF (writtenL w m ++ X) ln = (w, sepM m ++ X, ln) := by
  unfold writtenL sepM
  split
  · show tkF (34 :: (w ++ [34, 10]) ++ X) ln = _
    have : 34 :: (w ++ [34, 10]) ++ X = 34 :: (w ++ 34 :: (10 :: X)) := by simp
    rw [this, tkF.eq_def]
    simp only [if_neg (show ¬ isWs 34 = true by decide), if_pos, lnUp_ne (show (34 : Nat) ≠ 10 by decide)]
    rw [tkQ_word w [] (10 :: X) ln h]; rfl
  · cases w with
    | nil => exact absurd rfl hne
    | cons c w =>
      obtain ⟨h1, h2, h3⟩ := h c List.mem_cons_self
      have : (c :: w).flatMap (fun n => [92, n]) ++ [32] ++ X = 92 :: c :: (w.flatMap (fun n => [92, n]) ++ 32 :: X) := by simp
      rw [this, tkF.eq_def]
      simp only [if_neg (show ¬ isWs 92 = true by decide), if_neg (show ¬ (92 : Nat) = 34 by decide), if_pos, lnUp_ne h1, lnUp_ne (show (92 : Nat) ≠ 10 by decide)]
      rw [tkB_word w [c] X ln fun n hn => h n (List.mem_cons_of_mem _ hn)]
      rfl
theorem tkF_nl (X : List Nat) (ln : Int) : tkF (10 :: X) ln = tkF X (ln + 1) := by
  rw [tkF.eq_def]
  simp [isWs, lnUp]
theorem tkF_sep {sep X : List Nat} {ln : Int} (h : sep = [] ∨ sep = [10]) : tkF (sep ++ X) ln = tkF X (ln + sep.length) := by
  rcases h with rfl | rfl
  · simp
  · exact tkF_nl X ln
theorem sepM_or (m : Int) : sepM m = [] ∨ sepM m = [10] := by unfold sepM; split <;> simp
theorem written_nl {w : List Nat} {m : Int} (h : ∀ n ∈ w, wordOk n) : (writtenL w m).count 10 = (sepM m).length := by
  have h0 : w.count 10 = 0 := List.count_eq_zero.mpr fun z => (h 10 z).1 rfl
  unfold writtenL sepM
  split
  · have : 34 :: w ++ [34, 10] = [34] ++ w ++ [34, 10] := by simp
    rw [this, List.count_append, List.count_append, h0]; rfl
  · rw [List.count_append]
    have : (w.flatMap fun n => [92, n]).count 10 = 0 := List.count_eq_zero.mpr fun z => by
      obtain ⟨n, hn, e⟩ := List.mem_flatMap.mp z
      have := (h n hn).1
      simp at e; (first | lia | omega)
    rw [this]; rfl
theorem tkF_dot (ln : Int) : tkF [46] ln = ([46], [], ln) := by
  rw [tkF.eq_def]
  simp only [if_neg (show ¬ isWs 46 = true by decide), if_neg (show ¬ (46 : Nat) = 34 by decide), if_neg (show ¬ (46 : Nat) = 92 by decide), lnUp_ne (show (46 : Nat) ≠ 10 by decide)]
  rw [tkB.eq_def]

theorem leadL_signs (n : Int) : ∀ x ∈ leadL n, x = 32 ∨ x = 9 := fun x hx => by
  unfold leadL at hx
  obtain ⟨k, _, rfl⟩ := List.mem_map.mp hx
  unfold leadSign
  split <;> simp
theorem RowsOk.ws {R : List Row3} (h : RowsOk R) : ∀ r ∈ R, ∀ x ∈ r.2.1, x = 32 ∨ x = 9 := fun r hr x hx => by
  rcases h.ld r hr with e | ⟨n, e⟩
  · rw [e] at hx; cases hx
  · rw [e] at hx; exact leadL_signs n x hx
theorem RowsOk.nm5 {R : List Row3} (h : RowsOk R) : ∀ r ∈ R, 97 ≤ r.1 ∧ r.1 ≤ 101 := fun r hr => by
  have : r.1 ∈ nmR R := List.mem_map.mpr ⟨r, hr, rfl⟩
  rw [h.nm] at this
  have := List.mem_of_mem_take this
  simp at this; (first | lia | omega)
theorem RowsOk.word {R : List Row3} (h : RowsOk R) : ∀ r ∈ R, ∀ x ∈ wordR r, wordOk x := fun r hr x hx => by
  unfold wordR at hx
  rcases List.mem_append.mp hx with hx | hx
  · have := h.ws r hr x hx
    unfold wordOk; (first | lia | omega)
  · rw [List.mem_singleton.mp hx]
    have := h.nm5 r hr
    unfold wordOk; (first | lia | omega)

theorem wsRun_lead (x : Nat) (hx : x ≠ 32 ∧ x ≠ 9) : ∀ (l : List Nat) (w : WS), (∀ y ∈ l, y = 32 ∨ y = 9) → (wsRun w (l ++ [x])).n = w.n + l.length
  | [], w, _ => by
    show (wsRun w [x]).n = _
    unfold wsRun wsStep
    rw [if_neg hx.1, if_neg hx.2]
    simp
  | c :: l, w, h => by
    have hl : ∀ y ∈ l, y = 32 ∨ y = 9 := fun y hy => h y (List.mem_cons_of_mem _ hy)
    show (wsRun w (c :: (l ++ [x]))).n = _
    unfold wsRun
    rcases h c List.mem_cons_self with rfl | rfl
    · have e : ∀ w : WS, wsStep w 32 = some ⟨w.count, w.b + 1, w.n + 1, w.nt⟩ := fun w => rfl
      rw [e]
      show (wsRun _ (l ++ [x])).n = _
      rw [wsRun_lead x hx l _ hl]; simp only [List.length_cons]; (first | lia | omega)
    · have e : ∀ w : WS, wsStep w 9 = some ⟨(wsGrow w.count w.b).set w.b.toNat ((wsGrow w.count w.b).getD w.b.toNat 0 + 1), 0, w.n + 1, w.nt + 1⟩ := fun w => rfl
      rw [e]
      show (wsRun _ (l ++ [x])).n = _
      rw [wsRun_lead x hx l _ hl]; simp only [List.length_cons]; (first | lia | omega)
theorem RowsOk.wn {R : List Row3} (h : RowsOk R) : ∀ r ∈ R, (wsOf (wordR r)).n = r.2.1.length := fun r hr => by
  have := h.nm5 r hr
  unfold wsOf wordR
  rw [wsRun_lead r.1 (by (first | lia | omega)) r.2.1 _ (h.ws r hr)]
  simp
noncomputable def begR (R : List Row3) : List (Str × D) := R.map fun r => (S [r.1], .inst 139 (wsD (S (wordR r)) (wsOf (wordR r))))
noncomputable def ReadAt (R : List Row3) (i : Nat) (rem : List Nat) (ln : Int) : Prop := ∃ sep, (sep = [] ∨ sep = [10]) ∧ rem = sep ++ (txtR i (R.drop i) ++ [46]) ∧ ln + sep.length = 1 + (txtR 0 (R.take i)).count 10
theorem ReadAt.start (R : List Row3) : ReadAt R 0 (txtR 0 R ++ [46]) 1 := ⟨[], .inl rfl, rfl, rfl⟩
theorem ReadAt.step {R : List Row3} (hR : RowsOk R) {i : Nat} {rem : List Nat} {ln : Int} {r : Row3} (hr : R[i]? = some r) (h : ReadAt R i rem ln) : (tkF rem ln).1 = wordR r ∧ ReadAt R (i + 1) (tkF rem ln).2.1 (tkF rem ln).2.2 := by
  obtain ⟨sep, hs, rfl, hl⟩ := h
  have hm := List.mem_of_getElem? hr
  have hi : i < R.length := (List.getElem?_eq_some_iff.mp hr).1
  have hd : R.drop i = r :: R.drop (i + 1) := drop_get hr
  rw [tkF_sep hs, hd]
  show _ ∧ _
  have e : txtR i (r :: R.drop (i + 1)) ++ [46] = writtenL (wordR r) (r.2.2.fdiv 1024 + i) ++ (txtR (i + 1) (R.drop (i + 1)) ++ [46]) := by simp [txtR]
  rw [e, tkF_word (by simp [wordR]) (hR.word r hm)]
  refine ⟨rfl, sepM (r.2.2.fdiv 1024 + i), sepM_or _, rfl, ?_⟩
  rw [txtR_take hr, List.count_append, written_nl (hR.word r hm)]
  push_cast
  show ln + (sep.length : Int) + _ = _
  (first | lia | omega)
theorem ReadAt.len {R : List Row3} (hR : RowsOk R) {i : Nat} {rem : List Nat} {ln : Int} (h : ReadAt R i rem ln) : rem.length ≤ 200 := by
  obtain ⟨sep, hs, rfl, hl⟩ := h
  have h1 := txtR_len (R := R.drop i) (fun x hx => hR.ld4 x (List.mem_of_mem_drop hx)) i
  rw [List.length_drop] at h1
  have h2 : sep.length ≤ 1 := by rcases hs with rfl | rfl <;> simp
  have h3 := hR.len
  simp only [List.length_append, List.length_cons, List.length_nil]; (first | lia | omega)
theorem ReadAt.fin {R : List Row3} {rem : List Nat} {ln : Int} (h : ReadAt R R.length rem ln) : tkF rem ln = ([46], [], 1 + (((txtR 0 R).count 10 : Nat) : Int)) := by
  obtain ⟨sep, hs, rfl, hl⟩ := h
  rw [tkF_sep hs, List.drop_length]
  show tkF [46] _ = _
  rw [List.take_length] at hl
  rw [tkF_dot, hl]
end Mine
end

noncomputable section -- V11
open PySem PyProof.Rows
set_option maxRecDepth 100000
namespace Mine

noncomputable abbrev lawG (w : World) (A : Around) (s : Shared) (μ : Addr → Prop) : Cx := (lawCx w A s μ).guard 145
noncomputable abbrev lawFrom (k : Nat) : List Stmt := (bodyOf (topSt 15)).drop k
theorem lawG_S {w : World} {A : Around} {s : Shared} {μ : Addr → Prop} : ∀ b, Big b → ¬ (lawG w A s μ).S b := fun b hb hS => absurd (List.mem_singleton.mp hS ▸ hb : Big 145) (by decide)

theorem nm_at {R : List Row3} {i : Nat} {r : Row3} (h : R[i]? = some r) : (seqIndex? (i : Int) (S (nmR R)).length).bind ((S (nmR R)).cps[·]?) = some r.1 := by
  have hi : i < R.length := (List.getElem?_eq_some_iff.mp h).1
  rw [seqIdx_pos (by (first | lia | omega)) (by rw [S_length, nmR, List.length_map]; (first | lia | omega))]
  show (S (nmR R)).cps[(i : Int).toNat]? = _
  rw [← Array.getElem?_toList, S_cps, nmR, List.getElem?_map, Int.toNat_natCast, h]; rfl
theorem begR_keys (R : List Row3) : (begR R).map (·.1) = (nmR R).map fun n => S [n] := by unfold begR nmR; rw [List.map_map, List.map_map]; rfl

structure St2 (w : World) (R : List Row3) (a d p t g bg : Addr) (rem : List Nat) (ln : Int) (i : Nat) (ρ : Loc) : Prop where
  k1 : ρ "names" = some (.fz (.str (S (nmR R))))
  k2 : ρ "leads" = some (.fz (.lst (R.map fun r => .str (S r.2.1))))
  k3 : ρ "own" = some (.fz (.dct (ownR R)))
  k4 : ρ "text" = some (.fz (.str (S (txtR 0 R))))
  k5 : ρ "begun" = some (OD w bg (begR (R.take i)))
  k6 : ρ "machine" = some (MC w a d p t g rem ln [])
  k7 : ReadAt R i rem ln
set_option maxHeartbeats 4000000 in
theorem law_2 {w : World} {A : Around} {s : Shared} {μ : Addr → Prop} {R : List Row3} (hR : RowsOk R) {ρ : Loc} {Q : Out → Prop} {a d p t g : Addr} (h1 : ρ "draws" = some (.fz (.lst (R.map fun r => .int r.2.2)))) (h2 : ρ "names" = some (.fz (.str (S (nmR R))))) (h3 : ρ "leads" = some (.fz (.lst (R.map fun r => .str (S r.2.1)))))
    (h4 : ρ "own" = some (.fz (.dct (ownR R)))) (h5 : ρ "text" = some (.fz (.str (S (txtR 0 R))))) (h6 : ρ "machine" = some (MC w a d p t g (txtR 0 R ++ [46]) 1 []))
    (hq : ∀ ρ' rem ln, ρ' "names" = some (.fz (.str (S (nmR R)))) → ρ' "leads" = some (.fz (.lst (R.map fun r => .str (S r.2.1)))) → ρ' "own" = some (.fz (.dct (ownR R))) → ρ' "text" = some (.fz (.str (S (txtR 0 R)))) → ρ' "begun" = some (.fz (.dct (begR R))) →
      ρ' "machine" = some (MC w a d p t g rem ln []) → ReadAt R R.length rem ln → W (lawG w A s μ) ρ' (lawFrom 11) Q) : W (lawG w A s μ) ρ (lawFrom 9) Q := by
  have hSt : ∀ x, fdLaw.scope.names.lookup x = some .cell → okName x = true → Storable (lawCx w A s μ) x := fun x h1 h2 => Storable_law h1 h2
  have hl5 : R.length ≤ 5 := by have := hR.len; (first | lia | omega)
  refine W_newdict (hSt _ rfl rfl) fun bg => ?_
  refine W_for (ds := rngD 0 R.length) (P1 := isRng 0 R.length) (fun i ρ => ∃ rem ln, St2 w R a d p t g bg rem ln i ρ)
    (EvV_t1 (P1 := isD w (.int R.length)) (EvV_b1 (P1 := isD w (.lst (R.map fun r => .int r.2.2))) (Ev_name (d := .lst (R.map fun r : Row3 => .int r.2.2)) (by exact h1)) (P := isD w (.int R.length)) ?_ (by decide) boot_len rfl) .rng (by decide) boot_range rfl) (Itb.rng (by (first | lia | omega)) (by (first | lia | omega)) (by (first | lia | omega)) (by (first | lia | omega))) ⟨rfl, .inl rfl⟩ ⟨_, _, h2, h3, h4, h5, rfl, h6, ReadAt.start R⟩ ?_ ?_
  · intro μ' s' v t r
    have := Op1.lenL (c := lawG w A s μ) (ds := R.map fun r : Row3 => D.int r.2.2) (by rw [List.length_map]; (first | lia | omega)) μ' s' v t r
    rw [List.length_map] at this
    exact this
  · rintro i dd ρ g' hd ⟨rem, ln, K⟩
    obtain ⟨hi, rfl⟩ := rngD_get0 hd
    have hi' : i < R.length := by simpa using hi
    have hRi : R[i]? = some R[i] := by simp [hi']
    generalize R[i] = r at hRi
    have hrm := List.mem_of_getElem? hRi
    have hr4 : r.2.1.length ≤ 4 := hR.ld4 r hrm
    obtain ⟨s1, s2⟩ := K.k7.step hR hRi
    have hwl : (wordR r).length = r.2.1.length + 1 := by unfold wordR; simp
    refine W_assignO (EvO.eq (EvO_tok0 (ln := ln) (rem := rem) K.k6 (Nat.le_trans (K.k7.len hR) (by decide)) (by show 5 ≤ 6; decide)) rfl (by rw [s1])) ⟨rfl, .inl rfl⟩ ?_
    refine W_assign (d := .inst 139 (wsD (S (wordR r)) (wsOf (wordR r)))) (Ev_new1 (C := 139) (N := 138) (f := 94) (fd := fdWInit) (tab := wsTab) (n := 1) (d1 := .str (S (wordR r))) (Ev_name rfl) (by exact mem_lk (by kernel_rfl)) rfl (by exact mem_lkA rfl) (by simp) (by exact mem_lkA rfl) (fun a dd => fn_WInit w (wordR r) (by (first | lia | omega)) a dd) (by show 2 ≤ 6; decide)) ⟨rfl, .inl rfl⟩ ?_
    have at1 : ∀ {ρ : Loc} {c : Cx} {np q : Pos}, ρ (Str.ofString "lead") = some (.fz (.inst 139 (wsD (S (wordR r)) (wsOf (wordR r))))) → (eval (.Attribute (.Name (Str.ofString "lead") np) (Str.ofString "n") q) c.env = (do
        let o' ← eval (.Name (Str.ofString "lead") np) c.env
        standAt q.atName
        let r ← holding [o'] (getAttr o' (Str.ofString "n") true)
        letTemporaryGo (.Name (Str.ofString "lead") np) o' r
        pure r)) → Ev c ρ (.Attribute (.Name (Str.ofString "lead") np) (Str.ofString "n") q) (.int r.2.1.length) := fun h he => Ev_attr (C := 139) (N := 138) (tab := wsTab) (Ev_name h) (by exact mem_lkA rfl) (by exact mem_lk (by kernel_rfl)) (by exact mem_lk (by kernel_rfl)) lk_n (by rw [← hR.wn r hrm]; rfl) he
    have eb : begR (R.take (i + 1)) = begR (R.take i) ++ [(S [r.1], .inst 139 (wsD (S (wordR r)) (wsOf (wordR r))))] := by
      unfold begR; rw [List.take_add_one, hRi, List.map_append]; rfl
    have hnk : S [r.1] ∉ (begR (R.take i)).map (·.1) := by
      intro z
      rw [begR_keys] at z
      obtain ⟨n, hn, e⟩ := List.mem_map.mp z
      have e := S_one_inj e
      have : nmR (R.take (i + 1)) = nmR (R.take i) ++ [r.1] := by unfold nmR; rw [List.take_add_one, hRi, List.map_append]; rfl
      have h5 : (nmR (R.take (i + 1))).Nodup := hR.nd.sublist ((List.take_sublist _ _).map _)
      rw [this, List.nodup_append] at h5
      exact h5.2.2 n hn _ (List.mem_singleton.mpr rfl) e
    refine W_if (b := (S (wordR r) != S (wordR r)) || ((r.2.1.length : Int) != (r.2.1.length : Int))) (allTrue_or (Tst_cmp (P1 := isD w (.str (S (wordR r)))) (P2 := isD w (.str (S (wordR r)))) (Ev_name rfl) (Ev.eq (Ev_cat (a := S r.2.1) (b := S [r.1]) (EvV_sub (P2 := isD _ (.int i)) (Ev_name (d := .lst (R.map fun r : Row3 => .str (S r.2.1))) (by exact K.k2)) (Ev_name (d := .int i) rfl) (.isD _) (.itemL rfl (by (first | lia | omega)) (by (first | lia | omega)) (by rw [Int.toNat_natCast, List.getElem?_map, hRi]; rfl))) (EvV_sub (P2 := isD _ (.int i)) (Ev_name (d := .str (S (nmR R))) (by exact K.k1)) (Ev_name (d := .int i) rfl) (.isD _) (.itemS rfl (by (first | lia | omega)) (by (first | lia | omega)) (nm_at hRi))) ?_) (by rw [S_append]; rfl)) (.isD _) .neS) fun _ =>
      Tst_cmp (P1 := isD w (.int r.2.1.length)) (P2 := isD w (.int r.2.1.length)) (at1 rfl (by with_unfolding_all rfl)) (EvV_b1 (P1 := isD w (.str (S r.2.1))) (EvV_sub (P2 := isD _ (.int i)) (Ev_name (d := .lst (R.map fun r : Row3 => .str (S r.2.1))) (by exact K.k2)) (Ev_name (d := .int i) rfl) (.isD _) (.itemL rfl (by (first | lia | omega)) (by (first | lia | omega)) (by rw [Int.toNat_natCast, List.getElem?_map, hRi]; rfl))) ?_ (by decide) boot_len rfl) (.isD _) .neI) (fun hb => ?_) fun _ => W_end ?_
    · rw [S_length, S_length, sizeLine_eq]; simp; (first | lia | omega)
    · intro μ' s' v t' r'
      have := Op1.lenS (c := (lawG w A s μ).guard g') (x := S r.2.1) (by rw [S_length]; (first | lia | omega)) μ' s' v t' r'
      rw [S_length] at this
      exact this
    · simp at hb
    refine W_setitem (x := "begun") (a := bg) (l := begR (R.take i)) (k := S [r.1]) (d := .inst 139 (wsD (S (wordR r)) (wsOf (wordR r)))) K.k5 (Ev_name rfl) (Ev.eq (Ev_sliceS' (cs := wordR r) (lo := some r.2.1.length) (hi := none) (Ev_name rfl) (Pt_some (at1 rfl (by with_unfolding_all rfl))) Pt_none (fun i e => by cases e; (first | lia | omega)) (fun i e => by cases e) (by (first | lia | omega))) ?_) ?_ (W_nil ⟨_, _, K.k1, K.k2, K.k3, K.k4, ?_, rfl, s2⟩)
    · unfold cutL cutB wordR
      rw [List.take_length]
      show D.str (S ((r.2.1 ++ [r.1]).drop (min ((r.2.1.length : Nat) : Int).toNat (r.2.1 ++ [r.1]).length))) = _
      rw [Int.toNat_natCast, Nat.min_eq_left (by simp), List.drop_left]
    · unfold begR; rw [List.length_map, List.length_take]; (first | lia | omega)
    · rw [eb, ← putD_new hnk]; rfl
  · rintro ρ ⟨rem, ln, K⟩
    have k5 := K.k5
    have k7 := K.k7
    rw [rngD_len] at k5 k7
    have e0 : ((R.length : Int) - 0).toNat = R.length := by (first | lia | omega)
    rw [e0] at k5 k7
    rw [List.take_length] at k5
    refine W_freezeDB (x := "begun") lawG_S k5 (hq _ rem ln K.k1 K.k2 K.k3 K.k4 rfl K.k6 k7)
end Mine
end

noncomputable section -- V12
open PySem PyProof.Rows
set_option maxRecDepth 100000
namespace Mine

noncomputable def lookA {α : Type} (l : List (Str × α)) (k : Str) : Option α := (l.find? fun kv => kv.1 = k).map (·.2)
theorem lookD_map {α : Type} (f : α → D) (l : List (Str × α)) (k : Str) : lookD (l.map fun p => (p.1, f p.2)) k = (lookA l k).map f := by
  unfold lookD lookA
  rw [List.find?_map, Option.map_map, Option.map_map]
  rfl
theorem putA_mapG {α : Type} (f : α → D) (l : List (Str × α)) (k : Str) (v : α) : (putA l k v).map (fun p => (p.1, f p.2)) = putD (l.map fun p => (p.1, f p.2)) k (f v) := by
  unfold putA putD
  rw [List.any_map]
  have : ((fun kv : Str × D => decide (kv.1 = k)) ∘ fun p : Str × α => (p.1, f p.2)) = fun kv => decide (kv.1 = k) := rfl
  rw [this]
  split
  · rw [List.map_map, List.map_map]
    refine List.map_congr_left fun p _ => ?_
    simp only [Function.comp]
    split <;> rfl
  · rw [List.map_append]; rfl
theorem putA_mem {α : Type} {l : List (Str × α)} {k : Str} {v : α} : ∀ x ∈ putA l k v, x.1 = k ∨ x ∈ l := fun x hx => by
  unfold putA at hx
  split at hx
  · obtain ⟨y, hy, rfl⟩ := List.mem_map.mp hx
    split
    · rename_i h; exact .inl h
    · exact .inr hy
  · rcases List.mem_append.mp hx with h | h
    · exact .inr h
    · rw [List.mem_singleton.mp h]; exact .inl rfl

noncomputable def stepI (acc : List (Str × Int)) (p : Str × Int) : List (Str × Int) := match lookA acc p.1 with
  | some e => putA acc p.1 (e + p.2)
  | none => putA acc p.1 p.2
noncomputable def mergeI (t s : List (Str × Int)) : List (Str × Int) := s.foldl stepI t
noncomputable def intD (p : Str × Int) : Str × D := (p.1, .int p.2)
theorem stepI_map (acc : List (Str × Int)) (p : Str × Int) : (stepI acc p).map intD = stepAC (acc.map intD) (intD p) := by
  have h : lookD (acc.map intD) p.1 = (lookA acc p.1).map .int := lookD_map _ _ _
  unfold stepI
  cases e : lookA acc p.1 with
  | none =>
    rw [e] at h
    rw [show intD p = (p.1, .int p.2) from rfl, stepAC_none h]
    exact putA_mapG _ _ _ _
  | some v =>
    rw [e] at h
    rw [show intD p = (p.1, .int p.2) from rfl, stepAC_some h]
    exact putA_mapG _ _ _ _
theorem mergeI_map {t : List (Str × Int)} (hn : (t.map (·.1)).Nodup) (s : List (Str × Int)) : mergeD (t.map intD) (s.map intD) = (mergeI t s).map intD := by
  unfold mergeD copyD mergeI
  rw [foldP_id (by rw [List.map_map]; exact hn)]
  clear hn
  induction s generalizing t with
  | nil => rfl
  | cons p s ih => rw [List.map_cons, List.foldl_cons, List.foldl_cons, ← stepI_map, ih]

noncomputable def En.add (t s : En) : En := ⟨s.a + t.a, s.b + t.b, s.c + t.c, s.d + t.d, mergeI t.cl s.cl⟩
noncomputable def En.zero : En := ⟨0, 0, 0, 0, []⟩
noncomputable def uvwK : List Str := [S [117], S [118], S [119]]
structure EnOk (e : En) : Prop where
  nd : (e.cl.map (·.1)).Nodup
  ks : ∀ p ∈ e.cl, p.1 ∈ uvwK
theorem nodup_len {α : Type} [BEq α] [LawfulBEq α] : ∀ {l m : List α}, l.Nodup → (∀ x ∈ l, x ∈ m) → l.length ≤ m.length
  | [], m, _, _ => Nat.zero_le _
  | x :: l, m, h, hs => by
    rw [List.nodup_cons] at h
    have hx := hs x List.mem_cons_self
    have := nodup_len (l := l) (m := m.erase x) h.2 fun y hy => (List.mem_erase_of_ne (fun e : y = x => h.1 (e ▸ hy))).mpr (hs y (List.mem_cons_of_mem _ hy))
    rw [List.length_erase_of_mem hx] at this
    have : 0 < m.length := List.length_pos_of_mem hx
    simp only [List.length_cons]; (first | lia | omega)
theorem EnOk.len {e : En} (h : EnOk e) : e.cl.length ≤ 3 := by
  have := nodup_len (m := uvwK) h.nd fun x hx => by
    obtain ⟨p, hp, rfl⟩ := List.mem_map.mp hx
    exact h.ks p hp
  rw [List.length_map] at this
  exact this
theorem stepI_ok {acc : List (Str × Int)} {p : Str × Int} (hn : (acc.map (·.1)).Nodup) (hk : ∀ q ∈ acc, q.1 ∈ uvwK) (hp : p.1 ∈ uvwK) : ((stepI acc p).map (·.1)).Nodup ∧ ∀ q ∈ stepI acc p, q.1 ∈ uvwK := by
  have key : ∀ v, ((putA acc p.1 v).map (·.1)).Nodup ∧ ∀ q ∈ putA acc p.1 v, q.1 ∈ uvwK := fun v => ⟨putA_keys _ _ _ hn, fun q hq => by
    rcases putA_mem q hq with h | h
    · rw [h]; exact hp
    · exact hk q h⟩
  unfold stepI
  split
  · exact key _
  · exact key _
theorem mergeI_ok {s : List (Str × Int)} : ∀ {t : List (Str × Int)}, (t.map (·.1)).Nodup → (∀ q ∈ t, q.1 ∈ uvwK) → (∀ q ∈ s, q.1 ∈ uvwK) → ((mergeI t s).map (·.1)).Nodup ∧ ∀ q ∈ mergeI t s, q.1 ∈ uvwK := by
  unfold mergeI
  induction s with
  | nil => intro t h1 h2 _; exact ⟨h1, h2⟩
  | cons p s ih =>
    intro t h1 h2 h3
    obtain ⟨a, b⟩ := stepI_ok h1 h2 (h3 p List.mem_cons_self)
    exact ih a b fun q hq => h3 q (List.mem_cons_of_mem _ hq)
theorem EnOk.add {t s : En} (h : EnOk t) (h' : EnOk s) : EnOk (t.add s) := let ⟨a, b⟩ := mergeI_ok h.nd h.ks h'.ks; ⟨a, b⟩
theorem EnOk.neg {t : En} (h : EnOk t) (sg : Int) : EnOk (t.neg sg) := ⟨by
  have : (t.neg sg).cl.map (·.1) = t.cl.map (·.1) := by unfold En.neg; rw [List.map_map]; rfl
  rw [this]; exact h.nd, fun p hp => by
  obtain ⟨q, hq, rfl⟩ := List.mem_map.mp hp
  exact h.ks q hq⟩
theorem EnOk.zero : EnOk En.zero := ⟨List.nodup_nil, fun _ h => by cases h⟩
theorem uvw_mem (n : Int) : uvw n ∈ uvwK := by
  have := Int_fmod_lt n (b := 3) (by decide)
  unfold uvw
  generalize n.fmod 3 = z at this
  have : z = 0 ∨ z = 1 ∨ z = 2 := by (first | lia | omega)
  rcases this with rfl | rfl | rfl <;> simp [uvwK]
theorem EnOk.own (n : Int) : EnOk (ownE n) := ⟨by simp [ownE], fun p hp => by rw [List.mem_singleton.mp hp]; exact uvw_mem n⟩
theorem AFS_D {t s : En} (h : EnOk t) (h' : EnOk s) : specAFS [t.D, s.D] (t.add s).D := ⟨t, s, rfl, by have := h.len; (first | lia | omega), by have := h'.len; (first | lia | omega), by
  unfold En.D En.cls
  show D.tup [_, _, _, _, .dct ((mergeI t.cl s.cl).map intD)] = _
  rw [← mergeI_map h.nd]; rfl⟩

noncomputable def stepT (acc : List (Str × Int × Int)) (k : Str) (sg : Int) : List (Str × Int × Int) := match lookA acc k with
  | some v => putA acc k (1 + v.1, sg + v.2)
  | none => putA acc k (1, sg)
theorem stepT_map {acc : List (Str × Int × Int)} (hn : (acc.map (·.1)).Nodup) (k : Str) (sg : Int) : mergeD (acc.map prD) [(k, duoD (1, sg))] = (stepT acc k sg).map prD := by
  unfold mergeD copyD
  rw [foldP_id (by rw [List.map_map]; exact hn)]
  have h : lookD (acc.map prD) k = (lookA acc k).map duoD := lookD_map duoD acc k
  show stepAC (acc.map prD) (k, duoD (1, sg)) = _
  unfold stepT
  cases e : lookA acc k with
  | none =>
    rw [e] at h
    rw [stepAC_none h]
    exact (putA_mapG duoD _ _ _).symm
  | some v =>
    rw [e] at h
    rw [stepAC_some h]
    exact (putA_mapG duoD _ _ (1 + v.1, sg + v.2)).symm
theorem stepT_nodup {acc : List (Str × Int × Int)} (hn : (acc.map (·.1)).Nodup) (k : Str) (sg : Int) : ((stepT acc k sg).map (·.1)).Nodup := by
  unfold stepT; split <;> exact putA_keys _ _ _ hn
theorem stepT_keys {K : Str → Prop} {acc : List (Str × Int × Int)} (h : ∀ x ∈ acc, K x.1) {k : Str} (hk : K k) (sg : Int) : ∀ x ∈ stepT acc k sg, K x.1 := by
  have key : ∀ v, ∀ x ∈ putA acc k v, K x.1 := fun v x hx => by
    rcases putA_mem x hx with e | e
    · rw [e]; exact hk
    · exact h x e
  unfold stepT; split <;> exact key _

noncomputable def listsN : Nat → List (List Nat)
  | 0 => [[]]
  | n + 1 => (listsN n).flatMap fun l => [32 :: l, 9 :: l]
noncomputable def leads31 : List (List Nat) := (List.range 5).flatMap listsN
theorem mem_listsN : ∀ {n : Nat} {l : List Nat}, l.length = n → (∀ x ∈ l, x = 32 ∨ x = 9) → l ∈ listsN n
  | 0, l, h, _ => by rw [List.length_eq_zero_iff.mp h]; simp [listsN]
  | n + 1, [], h, _ => by cases h
  | n + 1, x :: l, h, hx => by
    unfold listsN
    rw [List.mem_flatMap]
    refine ⟨l, mem_listsN (by simpa using h) fun y hy => hx y (List.mem_cons_of_mem _ hy), ?_⟩
    rcases hx x List.mem_cons_self with rfl | rfl <;> simp
theorem RowsOk.l31 {R : List Row3} (h : RowsOk R) : ∀ r ∈ R, r.2.1 ∈ leads31 := fun r hr => by
  unfold leads31
  rw [List.mem_flatMap]
  exact ⟨r.2.1.length, List.mem_range.mpr (Nat.lt_succ_of_le (h.ld4 r hr)), mem_listsN rfl (h.ws r hr)⟩
theorem wsRun_tail (x : Nat) (hx : x ≠ 32 ∧ x ≠ 9) : ∀ (l : List Nat) (w : WS), (∀ y ∈ l, y = 32 ∨ y = 9) → wsRun w (l ++ [x]) = wsRun w l
  | [], w, _ => by
    show wsRun w [x] = w
    unfold wsRun wsStep
    rw [if_neg hx.1, if_neg hx.2]
  | c :: l, w, h => by
    show wsRun w (c :: (l ++ [x])) = wsRun w (c :: l)
    unfold wsRun
    cases wsStep w c with
    | none => rfl
    | some w' => exact wsRun_tail x hx l w' fun y hy => h y (List.mem_cons_of_mem _ hy)
theorem RowsOk.wsw {R : List Row3} (h : RowsOk R) : ∀ r ∈ R, wsOf (wordR r) = wsOf r.2.1 := fun r hr => by
  have := h.nm5 r hr
  exact wsRun_tail r.1 (by (first | lia | omega)) r.2.1 _ (h.ws r hr)
noncomputable def wsOkB (l : List Nat) : Bool := decide ((wsOf l).count.length ≤ 100) && decide ((wsOf l).b ≤ 100)
theorem ws31 : leads31.all wsOkB = true := by decide +kernel
theorem less31 : (leads31.all fun l => leads31.all fun m => lessF (wsOf l) (wsOf m) == ltC (colsL l) (colsL m)) = true := by decide +kernel
theorem RowsOk.wok {R : List Row3} (h : RowsOk R) : ∀ r ∈ R, wsOk (wsOf (wordR r)) := fun r hr => by
  rw [h.wsw r hr]
  have := List.all_eq_true.mp ws31 _ (h.l31 r hr)
  unfold wsOkB at this
  rw [Bool.and_eq_true, decide_eq_true_eq, decide_eq_true_eq] at this
  exact this
noncomputable def ltR (r q : Row3) : Bool := lessF (wsOf (wordR r)) (wsOf (wordR q))
theorem RowsOk.lt {R : List Row3} (h : RowsOk R) {r q : Row3} (hr : r ∈ R) (hq : q ∈ R) : ltR r q = ltC (colsL r.2.1) (colsL q.2.1) := by
  unfold ltR
  rw [h.wsw r hr, h.wsw q hq]
  exact eq_of_beq (List.all_eq_true.mp (List.all_eq_true.mp less31 _ (h.l31 r hr)) _ (h.l31 q hq))
end Mine
end

noncomputable section -- V13
open PySem PyProof.Rows
set_option maxRecDepth 100000
namespace Mine

noncomputable def deepRow (R : List Row3) (r : Row3) : List Row3 := R.filter fun q => ltR r q
noncomputable def keyR (r : Row3) : Str := S [r.1]
noncomputable def deepD (R : List Row3) : List (Str × D) := R.map fun r => (keyR r, .lst ((deepRow R r).map fun q => .str (keyR q)))
noncomputable def wholeE (R : List Row3) (r : Row3) : En := (deepRow R r).foldl (fun e q => e.add (ownE q.2.2)) (ownE r.2.2)
noncomputable def wholeD (R : List Row3) : List (Str × D) := R.map fun r => (keyR r, (wholeE R r).D)
noncomputable def zeroD (R : List Row3) : List (Str × D) := R.map fun r => (keyR r, En.zero.D)
noncomputable def nilD (R : List Row3) : List (Str × D) := R.map fun r => (keyR r, .dct [])

theorem keyR_inj {R : List Row3} (hn : (nmR R).Nodup) {p q : Row3} (hp : p ∈ R) (hq : q ∈ R) (h : keyR p = keyR q) : p = q := by
  have h1 : p.1 = q.1 := S_one_inj h
  induction R with
  | nil => cases hp
  | cons r R ih =>
    unfold nmR at hn
    rw [List.map_cons, List.nodup_cons] at hn
    rcases List.mem_cons.mp hp with e | hp'
    · rcases List.mem_cons.mp hq with e' | hq'
      · rw [e, e']
      · exact absurd (List.mem_map.mpr ⟨q, hq', by rw [← h1, e]⟩ : r.1 ∈ R.map (·.1)) hn.1
    · rcases List.mem_cons.mp hq with e' | hq'
      · exact absurd (List.mem_map.mpr ⟨p, hp', by rw [h1, e']⟩ : r.1 ∈ R.map (·.1)) hn.1
      · exact ih hn.2 hp' hq'
theorem rowD_keys (R : List Row3) (f : Row3 → D) : (R.map fun r => (keyR r, f r)).map (·.1) = (nmR R).map fun n => S [n] := by unfold nmR; rw [List.map_map, List.map_map]; rfl
theorem rowD_look {R : List Row3} (hn : (nmR R).Nodup) (f : Row3 → D) {r : Row3} (hr : r ∈ R) : lookD (R.map fun r => (keyR r, f r)) (keyR r) = some (f r) :=
  lookD_mem (p := (keyR r, f r)) (by rw [rowD_keys]; exact nodup_S hn) (List.mem_map.mpr ⟨r, hr, rfl⟩)
theorem rowD_new {R : List Row3} (hn : (nmR R).Nodup) (f : Row3 → D) {i : Nat} {r : Row3} (h : R[i]? = some r) : keyR r ∉ (((R.map fun r => (keyR r, f r)).take i).map (·.1)) := by
  rw [← List.map_take, rowD_keys]
  intro z
  obtain ⟨n, hn', e⟩ := List.mem_map.mp z
  have e := S_one_inj e
  have : nmR (R.take (i + 1)) = nmR (R.take i) ++ [r.1] := by unfold nmR; rw [List.take_add_one, h, List.map_append]; rfl
  have h5 : (nmR (R.take (i + 1))).Nodup := hn.sublist ((List.take_sublist _ _).map _)
  rw [this, List.nodup_append] at h5
  exact h5.2.2 n hn' _ (List.mem_singleton.mpr rfl) e
theorem rowD_take {R : List Row3} (f : Row3 → D) {i : Nat} {r : Row3} (h : R[i]? = some r) : (R.map fun r => (keyR r, f r)).take (i + 1) = (R.map fun r => (keyR r, f r)).take i ++ [(keyR r, f r)] := by
  rw [List.take_add_one, List.getElem?_map, h]; rfl
theorem rowD_put {R : List Row3} (hn : (nmR R).Nodup) (f : Row3 → D) {i : Nat} {r : Row3} (h : R[i]? = some r) : putD ((R.map fun r => (keyR r, f r)).take i) (keyR r) (f r) = (R.map fun r => (keyR r, f r)).take (i + 1) := by
  rw [putD_new (rowD_new hn f h), rowD_take f h]
theorem putD_last {l : List (Str × D)} {k : Str} {d e : D} (h : k ∉ l.map (·.1)) : putD (l ++ [(k, d)]) k e = l ++ [(k, e)] := by
  unfold putD
  rw [if_pos (by simp), List.map_append]
  congr 1
  · rw [List.map_congr_left (g := id)]
    · simp
    · intro p hp
      have : ¬ p.1 = k := fun z => h (z ▸ List.mem_map.mpr ⟨p, hp, rfl⟩)
      simp [this]
  · simp
theorem lookD_last {l : List (Str × D)} {k : Str} {d : D} (h : k ∉ l.map (·.1)) : lookD (l ++ [(k, d)]) k = some d := by
  have := lookD_none h
  unfold lookD at this ⊢
  rw [Option.map_eq_none_iff] at this
  rw [List.find?_append, this]; simp

theorem wholeE_ok (l : List Row3) : ∀ (e : En), EnOk e → EnOk (l.foldl (fun e q => e.add (ownE q.2.2)) e) := by
  induction l with
  | nil => exact fun e h => h
  | cons q l ih => exact fun e h => ih _ (h.add (.own _))

noncomputable def wsK (R : List Row3) (k : Str) : WS := ((R.find? fun q => keyR q = k).map fun q => wsOf (wordR q)).getD ⟨[], 0, 0, 0⟩
theorem wsK_of {R : List Row3} (hn : (nmR R).Nodup) {r : Row3} (hr : r ∈ R) : wsK R (keyR r) = wsOf (wordR r) := by
  unfold wsK
  cases h : R.find? fun q => keyR q = keyR r with
  | none =>
    rw [List.find?_eq_none] at h
    exact absurd (h r hr) (by simp)
  | some q =>
    have h1 := List.find?_some h
    have := keyR_inj hn (List.mem_of_find?_eq_some h) hr (by simpa using h1)
    rw [this]; rfl
noncomputable def ltD (R : List Row3) (r : Row3) (d : D) : Bool := match d with
  | .str k => lessF (wsOf (wordR r)) (wsK R k)
  | _ => false
theorem deep_filter {R : List Row3} (hn : (nmR R).Nodup) (r : Row3) : ((R.map fun q => D.str (keyR q)).filter (ltD R r)).map id = (deepRow R r).map fun q => .str (keyR q) := by
  rw [List.map_id, List.filter_map]
  unfold deepRow
  congr 1
  refine List.filter_congr fun q hq => ?_
  show lessF _ (wsK R (keyR q)) = ltR r q
  rw [wsK_of hn hq]; rfl
theorem signs_nm (R : List Row3) : signs (S (nmR R)) = R.map fun q => .str (keyR q) := by
  rw [signs_S]; unfold nmR; rw [List.map_map]; rfl

structure St3 (w : World) (R : List Row3) (a d p t g dp wh bk tb : Addr) (rem : List Nat) (ln : Int) (i : Nat) (ρ : Loc) : Prop where
  k1 : ρ "names" = some (.fz (.str (S (nmR R))))
  k2 : ρ "leads" = some (.fz (.lst (R.map fun r => .str (S r.2.1))))
  k3 : ρ "own" = some (.fz (.dct (ownR R)))
  k4 : ρ "text" = some (.fz (.str (S (txtR 0 R))))
  k5 : ρ "begun" = some (.fz (.dct (begR R)))
  k6 : ρ "machine" = some (MC w a d p t g rem ln ((R.take i).map fun r => [r.1]))
  k7 : ρ "deeper" = some (OD w dp ((deepD R).take i))
  k8 : ρ "whole" = some (OD w wh ((wholeD R).take i))
  k9 : ρ "books" = some (OD w bk ((zeroD R).take i))
  k10 : ρ "tables" = some (OD w tb ((nilD R).take i))
structure St3b (w : World) (R : List Row3) (a d p t g dp wh bk tb : Addr) (rem : List Nat) (ln : Int) (i : Nat) (r : Row3) (j : Nat) (ρ : Loc) : Prop where
  f1 : ρ "names" = some (.fz (.str (S (nmR R))))
  f2 : ρ "leads" = some (.fz (.lst (R.map fun r => .str (S r.2.1))))
  f3 : ρ "own" = some (.fz (.dct (ownR R)))
  f4 : ρ "text" = some (.fz (.str (S (txtR 0 R))))
  f5 : ρ "begun" = some (.fz (.dct (begR R)))
  f6 : ρ "machine" = some (MC w a d p t g rem ln ((R.take i).map fun r => [r.1]))
  f7 : ρ "deeper" = some (OD w dp ((deepD R).take i ++ [(keyR r, .lst ((deepRow R r).map fun q => .str (keyR q)))]))
  f8 : ρ "whole" = some (OD w wh ((wholeD R).take i ++ [(keyR r, (((deepRow R r).take j).foldl (fun e q => e.add (ownE q.2.2)) (ownE r.2.2)).D)]))
  f9 : ρ "books" = some (OD w bk ((zeroD R).take i))
  f10 : ρ "tables" = some (OD w tb ((nilD R).take i))
  f11 : ρ "low" = some (.fz (.str (keyR r)))
set_option maxHeartbeats 4000000 in
theorem law_3 {w : World} {A : Around} {s : Shared} {μ : Addr → Prop} {R : List Row3} (hR : RowsOk R) {ρ : Loc} {Q : Out → Prop} {a d p t g : Addr} {rem : List Nat} {ln : Int} (h2 : ρ "names" = some (.fz (.str (S (nmR R))))) (h3 : ρ "leads" = some (.fz (.lst (R.map fun r => .str (S r.2.1)))))
    (h4 : ρ "own" = some (.fz (.dct (ownR R)))) (h5 : ρ "text" = some (.fz (.str (S (txtR 0 R))))) (h7 : ρ "begun" = some (.fz (.dct (begR R)))) (h6 : ρ "machine" = some (MC w a d p t g rem ln []))
    (hq : ∀ ρ' dp wh bk tb, ρ' "names" = some (.fz (.str (S (nmR R)))) → ρ' "leads" = some (.fz (.lst (R.map fun r => .str (S r.2.1)))) → ρ' "own" = some (.fz (.dct (ownR R))) → ρ' "text" = some (.fz (.str (S (txtR 0 R)))) →
      ρ' "machine" = some (MC w a d p t g rem ln (R.map fun r => [r.1])) → ρ' "deeper" = some (OD w dp (deepD R)) → ρ' "whole" = some (OD w wh (wholeD R)) → ρ' "books" = some (OD w bk (zeroD R)) → ρ' "tables" = some (OD w tb (nilD R)) → W (lawG w A s μ) ρ' (lawFrom 16) Q) : W (lawG w A s μ) ρ (lawFrom 11) Q := by
  have hSt : ∀ x, fdLaw.scope.names.lookup x = some .cell → okName x = true → Storable (lawCx w A s μ) x := fun x h1 h2 => Storable_law h1 h2
  have hl5 : R.length ≤ 5 := by have := hR.len; (first | lia | omega)
  have hnd := hR.nd
  refine W_newdict ⟨rfl, .inl rfl⟩ fun dp => W_newdict ⟨rfl, .inl rfl⟩ fun wh => W_newdict ⟨rfl, .inl rfl⟩ fun bk => W_newdict ⟨rfl, .inl rfl⟩ fun tb => ?_
  refine W_for (ds := R.map fun q => .str (keyR q)) (P1 := isD w (.str (S (nmR R)))) (St3 w R a d p t g dp wh bk tb rem ln)
    (Ev_name (by exact h2)) (by rw [← signs_nm]; exact Itb.str) (hSt _ rfl rfl) ⟨h2, h3, h4, h5, h7, h6, rfl, rfl, rfl, rfl⟩ ?_ ?_
  · intro i dd ρ g' hd K
    obtain ⟨r, hRi, rfl⟩ := map_get hd
    have hrm := List.mem_of_getElem? hRi
    have hi : i < R.length := (List.getElem?_eq_some_iff.mp hRi).1
    have tl : ∀ (f : Row3 → D), ((R.map fun r => (keyR r, f r)).take i).length ≤ 1000 := fun f => by rw [List.length_take, List.length_map]; (first | lia | omega)
    have kl := rowD_look hnd (fun r => D.inst 139 (wsD (S (wordR r)) (wsOf (wordR r)))) hrm
    refine W_setitem (x := "deeper") (a := dp) (k := keyR r) (d := .lst ((deepRow R r).map fun q => .str (keyR q))) K.k7 (Ev.eq (Ev_listcomp (ds := R.map fun q => .str (keyR q)) (P1 := isD w (.str (S (nmR R)))) (ltD R r) id (Ev_name (by exact K.k1)) (by rw [← signs_nm]; exact Itb.str) (fun C s μ j d hd => ?_) ?_ rfl rfl (by decide) rfl rfl (by decide)) (by rw [deep_filter hnd])) (Ev_name rfl) (tl _) ?_
    · rw [List.getElem?_map] at hd
      cases hj : R[j]? with
      | none => rw [hj] at hd; cases hd
      | some q =>
        rw [hj] at hd; cases hd
        have hqm := List.mem_of_getElem? hj
        have kq := rowD_look hnd (fun r => D.inst 139 (wsD (S (wordR r)) (wsOf (wordR r)))) hqm
        refine ⟨TstL_one (Tst_val ?_), fun _ => Ev_name compLoc_x⟩
        show Ev _ _ _ (.bool (lessF (wsOf (wordR r)) (wsK R (keyR q))))
        rw [wsK_of hnd hqm]
        exact Ev_meth1 (C := 139) (N := 138) (tab := wsTab) (l := wsD (S (wordR r)) (wsOf (wordR r))) (EvV_sub (P2 := isD _ (.str (keyR r))) (Ev_name (d := .dct (begR R)) (compLoc_free (by exact K.k5) rfl rfl)) (Ev_name (compLoc_free (e := .str (keyR r)) rfl rfl rfl)) (.isD _) (.itemD rfl kl)) (EvV_sub (P2 := isD _ (.str (keyR q))) (Ev_name (d := .dct (begR R)) (compLoc_free (by exact K.k5) rfl rfl)) (Ev_name compLoc_x) (.isD _) (.itemD rfl kq)) (by exact mem_lkA rfl) (by exact mem_lk (by kernel_rfl)) (by exact mem_lk (by kernel_rfl)) (by exact mem_lk (by kernel_rfl)) (f := 129) (fd := fdLess) (by exact mem_lkA rfl) lk_less rfl (fn_less w) ⟨_, _, _, _, rfl, hR.wok r hrm, hR.wok q hqm, rfl⟩ (by show 2 ≤ 6; decide)
    · rw [List.length_map, sizeLine_eq]; (first | lia | omega)
    have hold : ∀ {q : Row3}, q ∈ R → lookD (ownR R) (keyR q) = some (ownE q.2.2).D := fun hq => rowD_look hnd (fun r => (ownE r.2.2).D) hq
    have hwn : keyR r ∉ ((wholeD R).take i).map (·.1) := rowD_new hnd (fun r => (wholeE R r).D) hRi
    refine W_setitem (x := "whole") (a := wh) (l := (wholeD R).take i) (k := keyR r) (d := (ownE r.2.2).D) K.k8 (EvV_sub (P2 := isD _ (.str (keyR r))) (Ev_name (d := .dct (ownR R)) (by exact K.k3)) (Ev_name rfl) (.isD _) (.itemD rfl (hold hrm))) (Ev_name rfl) (tl _) ?_
    rw [putD_new hwn]
    have hdn : keyR r ∉ ((deepD R).take i).map (·.1) := rowD_new hnd (fun r => D.lst ((deepRow R r).map fun q => .str (keyR q))) hRi
    rw [putD_new hdn]
    refine W_for (ds := (deepRow R r).map fun q => .str (keyR q)) (P1 := isD w (.lst ((deepRow R r).map fun q => .str (keyR q)))) (St3b w R a d p t g dp wh bk tb rem ln i r)
      (Ev_itemOD (x := "deeper") (a := dp) (l := (deepD R).take i ++ [(keyR r, .lst ((deepRow R r).map fun q => .str (keyR q)))]) (k := keyR r) rfl (Ev_name rfl) (lookD_last hdn)) Itb.list ⟨rfl, .inl rfl⟩ ⟨K.k1, K.k2, K.k3, K.k4, K.k5, K.k6, rfl, rfl, K.k9, K.k10, rfl⟩ ?_ ?_
    · intro j dd ρ g'' hd F
      have f8 := F.f8
      obtain ⟨q, hj, rfl⟩ := map_get hd
      have hqR : q ∈ R := (List.mem_filter.mp (List.mem_of_getElem? hj)).1
      have hok : EnOk (((deepRow R r).take j).foldl (fun e q => e.add (ownE q.2.2)) (ownE r.2.2)) := wholeE_ok _ _ (.own _)
      have es : ((deepRow R r).take (j + 1)).foldl (fun e q => e.add (ownE q.2.2)) (ownE r.2.2) = (((deepRow R r).take j).foldl (fun e q => e.add (ownE q.2.2)) (ownE r.2.2)).add (ownE q.2.2) := by
        rw [List.take_add_one, hj, List.foldl_append]; rfl
      generalize ((deepRow R r).take j).foldl (fun e q => e.add (ownE q.2.2)) (ownE r.2.2) = E0 at *
      refine W_setitem (x := "whole") (a := wh) (l := (wholeD R).take i ++ [(keyR r, E0.D)]) (k := keyR r) (d := (E0.add (ownE q.2.2)).D) f8 (Ev_call (ds := [E0.D, (ownE q.2.2).D]) (fn_AFS w) (by exact mem_lk (by kernel_rfl)) (fd := fdAFS) (by exact mem_lkA rfl) rfl (EvL_cons (Ev_itemOD (x := "whole") (a := wh) (l := (wholeD R).take i ++ [(keyR r, E0.D)]) (k := keyR r) (by exact f8) (Ev_name (by exact F.f11)) (lookD_last hwn)) (EvL_cons (EvV_sub (P2 := isD _ (.str (keyR q))) (Ev_name (d := .dct (ownR R)) (by exact F.f3)) (Ev_name (d := .str (keyR q)) rfl) (.isD _) (.itemD rfl (hold hqR))) EvL_nil)) (AFS_D hok (.own _)) (by show 2 ≤ 6; decide)) (Ev_name (by exact F.f11)) ?_ (W_nil ⟨F.f1, F.f2, F.f3, F.f4, F.f5, F.f6, F.f7, ?_, F.f9, F.f10, F.f11⟩)
      · have := tl (fun r => (wholeE R r).D)
        have e : ((wholeD R).take i).length ≤ 5 := by unfold wholeD; rw [List.length_take, List.length_map]; (first | lia | omega)
        rw [List.length_append, List.length_cons, List.length_nil]; (first | lia | omega)
      · rw [es, ← putD_last (d := E0.D) (e := (E0.add (ownE q.2.2)).D) hwn]; rfl
    · intro ρ F
      have f8 := F.f8
      rw [List.length_map, List.take_length] at f8
      refine W_setitem (x := "books") (a := bk) (l := (zeroD R).take i) (k := keyR r) (d := En.zero.D) F.f9 (Ev_tup (ds := [.int 0, .int 0, .int 0, .int 0, .dct []]) (EvL_cons Ev_int (EvL_cons Ev_int (EvL_cons Ev_int (EvL_cons Ev_int (EvL_cons Ev_dict0 EvL_nil))))) (by show 5 ≤ sizeLine; decide)) (Ev_name (by exact F.f11)) (tl _) ?_
      refine W_setitem (x := "tables") (a := tb) (l := (nilD R).take i) (k := keyR r) (d := .dct []) (by exact F.f10) Ev_dict0 (Ev_name (by exact F.f11)) (tl _) ?_
      refine W_exprO (EvO_pushM (y := [r.1]) (q := (R.take i).map fun r => [r.1]) (by exact F.f6) (Ev_name (by exact F.f11)) ?_ (by show 1 ≤ 6; decide)) (W_nil ⟨F.f1, F.f2, F.f3, F.f4, F.f5, ?_, ?_, ?_, ?_, ?_⟩)
      · rw [List.length_map, List.length_take]; (first | lia | omega)
      · have e : (R.take (i + 1)).map (fun r => [r.1]) = (R.take i).map (fun r => [r.1]) ++ [[r.1]] := by rw [List.take_add_one, hRi, List.map_append]; rfl
        rw [e]; rfl
      · rw [show (deepD R).take (i + 1) = _ from rowD_take (fun r => D.lst ((deepRow R r).map fun q => .str (keyR q))) hRi]; exact F.f7
      · rw [show (wholeD R).take (i + 1) = _ from rowD_take (fun r => (wholeE R r).D) hRi]; exact f8
      · rw [← show putD ((zeroD R).take i) (keyR r) En.zero.D = (zeroD R).take (i + 1) from rowD_put hnd (fun r => En.zero.D) hRi]; rfl
      · rw [← show putD ((nilD R).take i) (keyR r) (.dct []) = (nilD R).take (i + 1) from rowD_put hnd (fun r => .dct []) hRi]; rfl
  · intro ρ K
    rw [List.length_map] at K
    have k6 := K.k6
    rw [List.take_length] at k6
    have tk : ∀ (f : Row3 → D), (R.map fun r => (keyR r, f r)).take R.length = R.map fun r => (keyR r, f r) := fun f => by
      rw [List.take_of_length_le]; rw [List.length_map]; exact Nat.le_refl _
    refine hq ρ dp wh bk tb K.k1 K.k2 K.k3 K.k4 k6 ?_ ?_ ?_ ?_
    · rw [K.k7]; exact congrArg (fun l => some (OD w dp l)) (tk _)
    · rw [K.k8]; exact congrArg (fun l => some (OD w wh l)) (tk _)
    · rw [K.k9]; exact congrArg (fun l => some (OD w bk l)) (tk _)
    · rw [K.k10]; exact congrArg (fun l => some (OD w tb l)) (tk _)
end Mine
end

noncomputable section -- V14
open PySem PyProof.Rows
set_option maxRecDepth 100000
namespace Mine

noncomputable abbrev Chn := List Row3
noncomputable def hdR (c : Chn) : Row3 := c.headD (0, [], 0)
noncomputable def lsR (c : Chn) : Row3 := c.getLastD (0, [], 0)
noncomputable def txC (c : Chn) : List Nat := c.map (·.1)
noncomputable def sgn (c : Chn) : Int := 2 * (c.length : Int).fmod 2 - 1
noncomputable def extC (R : List Row3) (c : Chn) : List Chn := (deepRow R (lsR c)).map fun q => c ++ [q]
noncomputable def ones (R : List Row3) : List Chn := R.map fun r => [r]
noncomputable def pushedC (R : List Row3) (CH : List Chn) (j : Nat) : List Chn := ones R ++ (CH.take j).flatMap (extC R)
structure ChOk (R : List Row3) (CH : List Chn) : Prop where
  ne : ∀ c ∈ CH, c ≠ []
  mem : ∀ c ∈ CH, ∀ r ∈ c, r ∈ R
  len : ∀ c ∈ CH, c.length ≤ R.length
  fix : ones R ++ CH.flatMap (extC R) = CH
  prog : ∀ j, j < CH.length → j < (pushedC R CH j).length
  sz : CH.length ≤ 63
theorem ChOk.pre {R : List Row3} {CH : List Chn} (h : ChOk R CH) (j : Nat) : CH = pushedC R CH j ++ (CH.drop j).flatMap (extC R) := by
  unfold pushedC
  rw [List.append_assoc, ← List.flatMap_append, List.take_append_drop, h.fix]
theorem ChOk.at {R : List Row3} {CH : List Chn} (h : ChOk R CH) {j : Nat} (hj : j < CH.length) : (pushedC R CH j)[j]? = CH[j]? := by
  have h1 := h.prog j hj
  conv => rhs; rw [h.pre j]
  rw [List.getElem?_append_left h1]
theorem ChOk.all {R : List Row3} {CH : List Chn} (h : ChOk R CH) : pushedC R CH CH.length = CH := by
  unfold pushedC; rw [List.take_length, h.fix]
theorem ChOk.plen {R : List Row3} {CH : List Chn} (h : ChOk R CH) (j : Nat) : (pushedC R CH j).length ≤ 63 := by
  have := congrArg List.length (h.pre j)
  rw [List.length_append] at this
  have := h.sz
  (first | lia | omega)
theorem pushed_succ {R : List Row3} {CH : List Chn} {j : Nat} {c : Chn} (h : CH[j]? = some c) : pushedC R CH (j + 1) = pushedC R CH j ++ extC R c := by
  unfold pushedC
  rw [List.take_add_one, h, List.flatMap_append, List.append_assoc]
  simp
theorem hdR_mem {c : Chn} (h : c ≠ []) : hdR c ∈ c := by
  cases c with
  | nil => exact absurd rfl h
  | cons a c => exact List.mem_cons_self
theorem lsR_last {c : Chn} (h : c ≠ []) : c.getLast? = some (lsR c) := by
  unfold lsR
  cases c with
  | nil => exact absurd rfl h
  | cons a c => rw [List.getLast?_eq_some_getLast h]; rfl
theorem lsR_mem {c : Chn} (h : c ≠ []) : lsR c ∈ c := List.mem_of_getLast? (lsR_last h)
theorem sgn_pm (c : Chn) : sgn c = 1 ∨ sgn c = -1 := by
  have := Int_fmod_lt (c.length : Int) (b := 2) (by decide)
  unfold sgn; (first | lia | omega)

noncomputable def bkF (R : List Row3) (cs : List Chn) (r : Row3) : En := (cs.filter fun c => keyR (hdR c) = keyR r).foldl (fun e c => e.add ((wholeE R (lsR c)).neg (sgn c))) En.zero
noncomputable def tbF (cs : List Chn) (r : Row3) : List (Str × Int × Int) := (cs.filter fun c => keyR (hdR c) = keyR r).foldl (fun l c => stepT l (keyR (lsR c)) (sgn c)) []
noncomputable def booksD (R : List Row3) (cs : List Chn) : List (Str × D) := R.map fun r => (keyR r, (bkF R cs r).D)
noncomputable def tablesD (R : List Row3) (cs : List Chn) : List (Str × D) := R.map fun r => (keyR r, .dct ((tbF cs r).map prD))
noncomputable def chD (c : Chn) : D := .tup [.int c.length, .str (S (txC c))]
theorem bkF_snoc (R : List Row3) (cs : List Chn) (c : Chn) (r : Row3) : bkF R (cs ++ [c]) r = if keyR (hdR c) = keyR r then (bkF R cs r).add ((wholeE R (lsR c)).neg (sgn c)) else bkF R cs r := by
  unfold bkF
  rw [List.filter_append, List.foldl_append]
  by_cases h : keyR (hdR c) = keyR r
  · rw [if_pos h]; simp [h]
  · rw [if_neg h]; simp [h]
theorem tbF_snoc (cs : List Chn) (c : Chn) (r : Row3) : tbF (cs ++ [c]) r = if keyR (hdR c) = keyR r then stepT (tbF cs r) (keyR (lsR c)) (sgn c) else tbF cs r := by
  unfold tbF
  rw [List.filter_append, List.foldl_append]
  by_cases h : keyR (hdR c) = keyR r
  · rw [if_pos h]; simp [h]
  · rw [if_neg h]; simp [h]
theorem bkFold_ok (R : List Row3) : ∀ (l : List Chn) (e : En), EnOk e → EnOk (l.foldl (fun e c => e.add ((wholeE R (lsR c)).neg (sgn c))) e)
  | [], e, h => h
  | c :: l, e, h => bkFold_ok R l _ (h.add ((wholeE_ok _ _ (.own _)).neg _))
theorem bkF_ok (R : List Row3) (cs : List Chn) (r : Row3) : EnOk (bkF R cs r) := bkFold_ok R _ _ .zero
theorem tbFold_ok {K : Str → Prop} : ∀ (l : List Chn) (t : List (Str × Int × Int)), (∀ c ∈ l, K (keyR (lsR c))) → (t.map (·.1)).Nodup → (∀ x ∈ t, K x.1) → ((l.foldl (fun l c => stepT l (keyR (lsR c)) (sgn c)) t).map (·.1)).Nodup ∧ ∀ x ∈ l.foldl (fun l c => stepT l (keyR (lsR c)) (sgn c)) t, K x.1
  | [], t, _, h1, h2 => ⟨h1, h2⟩
  | c :: l, t, h, h1, h2 => tbFold_ok l _ (fun x hx => h x (List.mem_cons_of_mem _ hx)) (stepT_nodup h1 _ _) (stepT_keys h2 (h c List.mem_cons_self) _)
theorem tbF_ok {R : List Row3} {cs : List Chn} (hc : ∀ c ∈ cs, lsR c ∈ R) (r : Row3) : ((tbF cs r).map (·.1)).Nodup ∧ (∀ x ∈ tbF cs r, ∃ q ∈ R, x.1 = keyR q) ∧ (tbF cs r).length ≤ R.length := by
  obtain ⟨a, b⟩ := tbFold_ok (K := fun k => ∃ q ∈ R, k = keyR q) (cs.filter fun c => keyR (hdR c) = keyR r) [] (fun c h => ⟨lsR c, hc c (List.mem_filter.mp h).1, rfl⟩) List.nodup_nil (fun _ h => by cases h)
  refine ⟨a, b, ?_⟩
  have := nodup_len (m := R.map keyR) a fun x hx => by
    obtain ⟨y, hy, rfl⟩ := List.mem_map.mp hx
    obtain ⟨q, hq, e⟩ := b y hy
    exact List.mem_map.mpr ⟨q, hq, e.symm⟩
  rw [List.length_map, List.length_map] at this
  exact this
theorem rowD_upd {R : List Row3} {r0 : Row3} (h0 : r0 ∈ R) (f f' : Row3 → D) {d : D} (h1 : ∀ r ∈ R, keyR r0 = keyR r → f' r = d) (h2 : ∀ r ∈ R, ¬ keyR r0 = keyR r → f' r = f r) : putD (R.map fun r => (keyR r, f r)) (keyR r0) d = R.map fun r => (keyR r, f' r) := by
  unfold putD
  rw [if_pos (by rw [List.any_map, List.any_eq_true]; exact ⟨r0, h0, by simp⟩), List.map_map]
  refine List.map_congr_left fun r hr => ?_
  simp only [Function.comp]
  by_cases h : keyR r = keyR r0
  · rw [if_pos h, h1 r hr h.symm]
  · rw [if_neg h, h2 r hr fun z => h z.symm]
theorem books_put {R : List Row3} (hn : (nmR R).Nodup) (cs : List Chn) {c : Chn} (hc : hdR c ∈ R) : putD (booksD R cs) (keyR (hdR c)) ((bkF R cs (hdR c)).add ((wholeE R (lsR c)).neg (sgn c))).D = booksD R (cs ++ [c]) :=
  rowD_upd hc (fun r => (bkF R cs r).D) (fun r => (bkF R (cs ++ [c]) r).D) (fun r hr e => by rw [bkF_snoc, if_pos e, keyR_inj hn hc hr e]) fun r hr e => by rw [bkF_snoc, if_neg e]
theorem tables_put {R : List Row3} (hn : (nmR R).Nodup) (cs : List Chn) {c : Chn} (hc : hdR c ∈ R) : putD (tablesD R cs) (keyR (hdR c)) (.dct ((stepT (tbF cs (hdR c)) (keyR (lsR c)) (sgn c)).map prD)) = tablesD R (cs ++ [c]) :=
  rowD_upd hc (fun r => .dct ((tbF cs r).map prD)) (fun r => .dct ((tbF (cs ++ [c]) r).map prD)) (fun r hr e => by rw [tbF_snoc, if_pos e, keyR_inj hn hc hr e]) fun r hr e => by rw [tbF_snoc, if_neg e]
theorem txC_first {c : Chn} (h : c ≠ []) : (seqIndex? 0 (S (txC c)).length).bind ((S (txC c)).cps[·]?) = some (hdR c).1 := by
  cases c with
  | nil => exact absurd rfl h
  | cons a c =>
    rw [seqIdx_pos (by decide) (by rw [S_length]; simp [txC])]
    show (S (txC (a :: c))).cps[0]? = _
    rw [← Array.getElem?_toList, S_cps]; rfl
theorem txC_last {c : Chn} (h : c ≠ []) : (seqIndex? (-1) (S (txC c)).length).bind ((S (txC c)).cps[·]?) = some (lsR c).1 := by
  have hl := lsR_last h
  have hp : 0 < c.length := List.length_pos_iff.mpr h
  have hs : (S (txC c)).length = c.length := by rw [S_length, txC, List.length_map]
  have e : seqIndex? (-1) (S (txC c)).length = some (c.length - 1) := by
    rw [hs]; unfold seqIndex?
    have h1 : ((if (-1 : Int) < 0 then (-1 : Int) + (c.length : Nat) else -1)) = ((c.length - 1 : Nat) : Int) := by rw [if_pos (by decide)]; (first | lia | omega)
    simp only [h1]
    rw [if_pos (by simp; (first | lia | omega)), Int.toNat_natCast]
  rw [e]
  show (S (txC c)).cps[c.length - 1]? = _
  rw [← Array.getElem?_toList, S_cps, txC, List.getElem?_map, ← List.getLast?_eq_getElem?, hl]; rfl
end Mine
end

noncomputable section -- V15
open PySem PyProof.Rows
set_option maxRecDepth 100000
namespace Mine

noncomputable def endLn (R : List Row3) : Int := 1 + (((txtR 0 R).count 10 : Nat) : Int)
noncomputable def Cur (w : World) (a d p t g : Addr) (R : List Row3) (CH : List Chn) (rem : List Nat) (ln : Int) (j : Nat) (ρ : Loc) : Prop :=
  (∃ c, CH[j]? = some c ∧ ρ (Str.ofString "chain") = some (.fz (.str (S (txC c)))) ∧ ρ (Str.ofString "machine") = some (MC w a d p t g rem ln (((pushedC R CH j).drop (j + 1)).map txC))) ∨
  (j = CH.length ∧ ρ (Str.ofString "chain") = some (.fz (.str (S [46]))) ∧ ρ (Str.ofString "machine") = some (MC w a d p t g [] (endLn R) []))

theorem W_nextChain {w : World} {A : Around} {s : Shared} {μ : Addr → Prop} {R : List Row3} {CH : List Chn} (hR : RowsOk R) (hC : ChOk R CH) {ρ : Loc} {Q : Out → Prop} {a d p t g : Addr} {rem : List Nat} {ln : Int} {j : Nat} {p1 np ap ep pos : Pos} {rest : List Stmt} {pl : Sem Bool} (hj : j ≤ CH.length) (hread : ReadAt R R.length rem ln)
    (hm : ρ (Str.ofString "machine") = some (MC w a d p t g rem ln (((pushedC R CH j).drop j).map txC))) (hq : ∀ ρ', (∀ x, x ≠ Str.ofString "machine" → x ≠ Str.ofString "chain" → ρ' x = ρ x) → Cur w a d p t g R CH rem ln j ρ' → W (lawG w A s μ) ρ' rest Q)
    (he : eval (.Call (.Attribute (.Name (Str.ofString "machine") np) (Str.ofString "get_token") ap) [] [] ep) (lawG w A s μ).env = (do
      let ov ← eval (.Name (Str.ofString "machine") np) (lawG w A s μ).env
      standAt ap.atName
      let (f, first) ← holding [ov] (getMethod ov (Str.ofString "get_token") pl)
      callWith ep f first (backTo ep (starEach [] (lawG w A s μ).env)) []) := by rfl)
    (hs : swapsWith (.Call (.Attribute (.Name (Str.ofString "machine") np) (Str.ofString "get_token") ap) [] [] ep) (some (.Name (Str.ofString "chain") p1)) pos.line (lawG w A s μ).env = pure false := by rfl) :
    W (lawG w A s μ) ρ (.Assign [.Name (Str.ofString "chain") p1] (.Call (.Attribute (.Name (Str.ofString "machine") np) (Str.ofString "get_token") ap) [] [] ep) pos :: rest) Q := by
  rcases Nat.lt_or_eq_of_le hj with hj | rfl
  · have hpg := hC.prog j hj
    have hat := hC.at hj
    have hc : CH[j]? = some CH[j] := by simp [hj]
    generalize CH[j] = c at hc
    rw [hc] at hat
    have hdr : ((pushedC R CH j).drop j).map txC = txC c :: ((pushedC R CH j).drop (j + 1)).map txC := by rw [drop_get hat, List.map_cons]
    rw [hdr] at hm
    refine W_assignO (EvO_tokP hm ?_ (by show 5 ≤ 6; decide) he) ⟨rfl, .inl rfl⟩ (hq _ (fun x h1 h2 => by unfold upd; rw [if_neg h2, if_neg h1]) (.inl ⟨c, hc, rfl, rfl⟩)) hs
    rw [List.length_map, List.length_drop]
    have := hC.plen j
    (first | lia | omega)
  · have hdr : ((pushedC R CH CH.length).drop CH.length).map txC = [] := by rw [hC.all, List.drop_length]; rfl
    rw [hdr] at hm
    have hf := hread.fin
    refine W_assignO (EvO.eq (EvO_tok0 hm (Nat.le_trans (hread.len hR) (by decide)) (by show 5 ≤ 6; decide) he) (l' := MC w a d p t g [] (endLn R) []) (d' := .str (S [46])) (by rw [hf]; rfl) (by rw [hf])) ⟨rfl, .inl rfl⟩ (hq _ (fun x h1 h2 => by unfold upd; rw [if_neg h2, if_neg h1]) (.inr ⟨rfl, rfl, rfl⟩)) hs

structure St4 (w : World) (R : List Row3) (CH : List Chn) (dp wh bk tb cc : Addr) (j : Nat) (ρ : Loc) : Prop where
  k1 : ρ "names" = some (.fz (.str (S (nmR R))))
  k2 : ρ "leads" = some (.fz (.lst (R.map fun r => .str (S r.2.1))))
  k3 : ρ "own" = some (.fz (.dct (ownR R)))
  k4 : ρ "text" = some (.fz (.str (S (txtR 0 R))))
  k5 : ρ "deeper" = some (OD w dp (deepD R))
  k6 : ρ "whole" = some (OD w wh (wholeD R))
  k7 : ρ "books" = some (OD w bk (booksD R (CH.take j)))
  k8 : ρ "tables" = some (OD w tb (tablesD R (CH.take j)))
  k9 : ρ "chains" = some (OL w cc ((CH.take j).map chD))
structure St4b (w : World) (R : List Row3) (CH : List Chn) (a d p t g dp wh bk tb cc : Addr) (rem : List Nat) (ln : Int) (j : Nat) (c : Chn) (i : Nat) (ρ : Loc) : Prop where
  st : St4 w R CH dp wh bk tb cc (j + 1) ρ
  f10 : ρ "chain" = some (.fz (.str (S (txC c))))
  f11 : ρ "machine" = some (MC w a d p t g rem ln (((pushedC R CH j).drop (j + 1)).map txC ++ ((deepRow R (lsR c)).take i).map fun q => txC c ++ [q.1]))
theorem St4.keep {w : World} {R : List Row3} {CH : List Chn} {dp wh bk tb cc : Addr} {j : Nat} {ρ ρ' : Loc} (h : St4 w R CH dp wh bk tb cc j ρ) (hk : ∀ x : Str, x ≠ "machine" → x ≠ "chain" → ρ' x = ρ x) : St4 w R CH dp wh bk tb cc j ρ' :=
  ⟨(hk _ (by decide) (by decide)).trans h.k1, (hk _ (by decide) (by decide)).trans h.k2, (hk _ (by decide) (by decide)).trans h.k3, (hk _ (by decide) (by decide)).trans h.k4, (hk _ (by decide) (by decide)).trans h.k5, (hk _ (by decide) (by decide)).trans h.k6, (hk _ (by decide) (by decide)).trans h.k7, (hk _ (by decide) (by decide)).trans h.k8, (hk _ (by decide) (by decide)).trans h.k9⟩
set_option maxHeartbeats 8000000 in
theorem law_4 {w : World} {A : Around} {s : Shared} {μ : Addr → Prop} {R : List Row3} {CH : List Chn} (hR : RowsOk R) (hC : ChOk R CH) {ρ : Loc} {Q : Out → Prop} {a d p t g dp wh bk tb : Addr} {rem : List Nat} {ln : Int} (hread : ReadAt R R.length rem ln)
    (h1 : ρ "names" = some (.fz (.str (S (nmR R))))) (h2 : ρ "leads" = some (.fz (.lst (R.map fun r => .str (S r.2.1))))) (h3 : ρ "own" = some (.fz (.dct (ownR R)))) (h4 : ρ "text" = some (.fz (.str (S (txtR 0 R)))))
    (h5 : ρ "machine" = some (MC w a d p t g rem ln (R.map fun r => [r.1]))) (h6 : ρ "deeper" = some (OD w dp (deepD R))) (h7 : ρ "whole" = some (OD w wh (wholeD R))) (h8 : ρ "books" = some (OD w bk (zeroD R))) (h9 : ρ "tables" = some (OD w tb (nilD R)))
    (hq : ∀ ρ' cc, ρ' "names" = some (.fz (.str (S (nmR R)))) → ρ' "leads" = some (.fz (.lst (R.map fun r => .str (S r.2.1)))) → ρ' "own" = some (.fz (.dct (ownR R))) → ρ' "text" = some (.fz (.str (S (txtR 0 R)))) →
      ρ' "machine" = some (MC w a d p t g [] (endLn R) []) → ρ' "whole" = some (OD w wh (wholeD R)) → ρ' "books" = some (OD w bk (booksD R CH)) → ρ' "tables" = some (OD w tb (tablesD R CH)) → ρ' "chains" = some (OL w cc (CH.map chD)) → ρ' "chain" = some (.fz (.str (S [46]))) → W (lawG w A s μ) ρ' (lawFrom 19) Q) : W (lawG w A s μ) ρ (lawFrom 16) Q := by
  have hSt : ∀ x, fdLaw.scope.names.lookup x = some .cell → okName x = true → Storable (lawCx w A s μ) x := fun x h1 h2 => Storable_law h1 h2
  have hnd := hR.nd
  have hl5 : R.length ≤ 5 := by have := hR.len; (first | lia | omega)
  refine W_newlist ⟨rfl, .inl rfl⟩ fun cc => ?_
  refine W_nextChain (j := 0) hR hC (Nat.zero_le _) hread (by
    show ρ (Str.ofString "machine") = _
    have e : ((pushedC R CH 0).drop 0).map txC = R.map fun r => [r.1] := by
      show ((ones R ++ ([] : List Chn).flatMap (extC R))).map txC = _
      rw [List.flatMap_nil, List.append_nil]
      unfold ones; rw [List.map_map]; rfl
    rw [e]; exact h5) fun ρ1 hk1 hcur => ?_
  refine W_while (fun n ρ => ∃ j, n + j = CH.length ∧ St4 w R CH dp wh bk tb cc j ρ ∧ Cur w a d p t g R CH rem ln j ρ) CH.length
    ⟨0, rfl, St4.keep (ρ := upd ρ "chains" (OL w cc [])) ⟨h1, h2, h3, h4, h6, h7, h8, h9, rfl⟩ hk1, hcur⟩ ?_
  clear hk1 hcur ρ1
  rintro n ρ ⟨j, hn, K, hcur⟩
  rcases hcur with ⟨c, hcj, k10, k11⟩ | ⟨rfl, k10, k11⟩
  · have hcm := List.mem_of_getElem? hcj
    have hj : j < CH.length := (List.getElem?_eq_some_iff.mp hcj).1
    have hne := hC.ne c hcm
    have hlen := hC.len c hcm
    have hpos : 0 < c.length := List.length_pos_iff.mpr hne
    have hcl : (txC c).length = c.length := by simp [txC]
    have hhd : hdR c ∈ R := hC.mem c hcm _ (hdR_mem hne)
    have hls : lsR c ∈ R := hC.mem c hcm _ (lsR_mem hne)
    have lenC : ∀ {c' : Cx} {ρ' : Loc}, Op1 c' ρ' (fun v => call (.builtin "len") [v]) (isD c'.w (.str (S (txC c)))) (isD c'.w (.int c.length)) := fun {c' ρ'} μ' s' v t' r' => by
      have := Op1.lenS (c := c') (ρ := ρ') (x := S (txC c)) (by rw [S_length, hcl]; (first | lia | omega)) μ' s' v t' r'
      rw [S_length, hcl] at this
      exact this
    have lenN : ∀ {c' : Cx} {ρ' : Loc}, Op1 c' ρ' (fun v => call (.builtin "len") [v]) (isD c'.w (.str (S (nmR R)))) (isD c'.w (.int R.length)) := fun {c' ρ'} μ' s' v t' r' => by
      have := Op1.lenS (c := c') (ρ := ρ') (x := S (nmR R)) (by rw [S_length, nmR, List.length_map]; (first | lia | omega)) μ' s' v t' r'
      rw [S_length, nmR, List.length_map] at this
      exact this
    have hdot : (S (txC c) != S [46]) = true := by
      rw [bne_iff_ne]
      intro e
      have e := S_inj e
      have h97 := hR.nm5 _ hhd
      cases c with
      | nil => exact hne rfl
      | cons r c =>
        have : r.1 = 46 := by simp only [txC, List.map_cons, List.cons.injEq] at e; exact e.1
        have h97' : 97 ≤ r.1 := h97.1
        (first | lia | omega)
    refine ⟨(S (txC c) != S [46]) && (decide ((0 : Int) < c.length) && decide ((c.length : Int) ≤ R.length)), allTrue_and (Tst_cmp (P1 := isD w (.str (S (txC c)))) (Ev_name (by exact k10)) (Ev.eq (Ev_str) (d' := .str (S [46])) rfl) (.isD _) .neS) (fun _ => Tst_chain3 Ev_int (EvV_b1 (P1 := isD w (.str (S (txC c)))) (Ev_name (by exact k10)) lenC (by decide) boot_len rfl) (EvV_b1 (P1 := isD w (.str (S (nmR R)))) (Ev_name (by exact K.k1)) lenN (by decide) boot_len rfl)), fun _ => ?_, fun hb => ?_⟩
    · have es : CH.take (j + 1) = CH.take j ++ [c] := by rw [List.take_add_one, hcj]; rfl
      have tll : (CH.take j).length ≤ 63 := by rw [List.length_take]; have := hC.sz; (first | lia | omega)
      have hlsj : ∀ c' ∈ CH.take j, lsR c' ∈ R := fun c' h => hC.mem c' (List.mem_of_mem_take h) _ (lsR_mem (hC.ne c' (List.mem_of_mem_take h)))
      refine W_append (x := "chains") (a := cc) (l := (CH.take j).map chD) (d := chD c) K.k9 (Ev_tup (EvL_cons (EvV_b1 (P1 := isD w (.str (S (txC c)))) (Ev_name (by exact k10)) lenC (by decide) boot_len rfl) (EvL_cons (Ev_name (by exact k10)) EvL_nil)) (by show 2 ≤ sizeLine; decide)) (by rw [List.length_map]; (first | lia | omega)) ?_
      refine W_assign (d := .str (keyR (hdR c))) (EvV_sub (P1 := isD w (.str (S (txC c)))) (P2 := isD _ (.int 0)) (Ev_name (by exact k10)) Ev_int (.isD _) (.itemS rfl (by decide) (by decide) (txC_first hne))) (hSt _ rfl rfl) ?_
      refine W_assign (d := .str (keyR (lsR c))) (EvV_sub (P1 := isD w (.str (S (txC c)))) (P2 := isD _ (.int (-1))) (Ev_name (by exact k10)) (Ev_neg Ev_int) (.isD _) (.itemS rfl (by decide) (by decide) (txC_last hne))) ⟨rfl, .inl rfl⟩ ?_
      have hf2 := Int_fmod_lt (c.length : Int) (b := 2) (by decide)
      refine W_assign (d := .int (sgn c)) (Ev_sub (Ev_mul Ev_int (Ev_fmod (b := 2) (EvV_b1 (P1 := isD w (.str (S (txC c)))) (Ev_name (by exact k10)) lenC (by decide) boot_len rfl) Ev_int (by decide)) (.of_right (intBits_le_64 (by (first | lia | omega)) (by (first | lia | omega))))) Ev_int) ⟨rfl, .inl rfl⟩ ?_
      have hbl : (booksD R (CH.take j)).length ≤ 1000 := by unfold booksD; rw [List.length_map]; (first | lia | omega)
      have htl : (tablesD R (CH.take j)).length ≤ 1000 := by unfold tablesD; rw [List.length_map]; (first | lia | omega)
      have hwok : EnOk (wholeE R (lsR c)) := wholeE_ok _ _ (.own _)
      refine W_setitem (x := "books") (a := bk) (l := booksD R (CH.take j)) (k := keyR (hdR c)) (d := ((bkF R (CH.take j) (hdR c)).add ((wholeE R (lsR c)).neg (sgn c))).D) (by exact K.k7)
        (Ev_call (ds := [(bkF R (CH.take j) (hdR c)).D, ((wholeE R (lsR c)).neg (sgn c)).D]) (fn_AFS w) (by exact mem_lk (by kernel_rfl)) (fd := fdAFS) (by exact mem_lkA rfl) rfl (EvL_cons (Ev_itemOD (x := "books") (a := bk) (l := booksD R (CH.take j)) (k := keyR (hdR c)) (by exact K.k7) (Ev_name rfl) (rowD_look hnd (fun r => (bkF R (CH.take j) r).D) hhd))
          (EvL_cons (Ev_call (ds := [(wholeE R (lsR c)).D, .int (sgn c)]) (fn_signed w) (by exact mem_lk (by kernel_rfl)) (fd := fdSigned) (by exact mem_lkA rfl) rfl (EvL_cons (Ev_itemOD (x := "whole") (a := wh) (l := wholeD R) (k := keyR (lsR c)) (by exact K.k6) (Ev_name rfl) (rowD_look hnd (fun r => (wholeE R r).D) hls)) (EvL_cons (Ev_name rfl) EvL_nil)) ⟨wholeE R (lsR c), sgn c, rfl, sgn_pm c, by have := hwok.len; (first | lia | omega), hwok.nd, rfl⟩ (by show 1 ≤ 6; decide)) EvL_nil)) (AFS_D (bkF_ok _ _ _) (hwok.neg _)) (by show 2 ≤ 6; decide)) (Ev_name rfl) hbl ?_
      rw [books_put hnd _ hhd, ← es]
      obtain ⟨tk1, tk2, tk3⟩ := tbF_ok hlsj (hdR c)
      refine W_setitem (x := "tables") (a := tb) (l := tablesD R (CH.take j)) (k := keyR (hdR c)) (d := .dct ((stepT (tbF (CH.take j) (hdR c)) (keyR (lsR c)) (sgn c)).map prD)) (by exact K.k8)
        (Ev_call (ds := [.dct ((tbF (CH.take j) (hdR c)).map prD), .dct [(keyR (lsR c), duoD (1, sgn c))]]) (fn_AC w) (by exact mem_lk (by kernel_rfl)) (fd := fdAC) (by exact mem_lkA rfl) rfl (EvL_cons (Ev_itemOD (x := "tables") (a := tb) (l := tablesD R (CH.take j)) (k := keyR (hdR c)) (by exact K.k8) (Ev_name rfl) (rowD_look hnd (fun r => .dct ((tbF (CH.take j) r).map prD)) hhd))
          (EvL_cons (Ev_dict1 (Ev_name rfl) (Ev_tup (EvL_cons Ev_int (EvL_cons (Ev_name rfl) EvL_nil)) (by show 2 ≤ sizeLine; decide))) EvL_nil)) ⟨_, _, rfl, by rw [stepT_map tk1], by rw [List.length_map]; (first | lia | omega), by simp, .inr ⟨fun p hp => by
            obtain ⟨x, _, rfl⟩ := List.mem_map.mp hp
            exact ⟨_, _, rfl⟩, fun p hp => by rw [List.mem_singleton.mp hp]; exact ⟨_, _, rfl⟩⟩⟩ (by show 1 ≤ 6; decide)) (Ev_name rfl) htl ?_
      rw [tables_put hnd _ hhd, ← es]
      have hjp : j + 1 ≤ (pushedC R CH j).length := hC.prog j hj
      refine W_for (ds := (deepRow R (lsR c)).map fun q => .str (keyR q)) (P1 := isD w (.lst ((deepRow R (lsR c)).map fun q => .str (keyR q)))) (St4b w R CH a d p t g dp wh bk tb cc rem ln j c)
        (Ev_itemOD (x := "deeper") (a := dp) (l := deepD R) (k := keyR (lsR c)) (by exact K.k5) (Ev_name rfl) (rowD_look hnd (fun r => D.lst ((deepRow R r).map fun q => .str (keyR q))) hls)) Itb.list ⟨rfl, .inl rfl⟩ ⟨⟨K.k1, K.k2, K.k3, K.k4, K.k5, K.k6, rfl, rfl, ?_⟩, k10, ?_⟩ ?_ ?_
      · rw [es, List.map_append]; rfl
      · rw [List.take_zero, List.map_nil, List.append_nil]; exact k11
      · intro i dd ρ g' hd F
        obtain ⟨q, hi, rfl⟩ := map_get hd
        have ei : ((deepRow R (lsR c)).take (i + 1)).map (fun q => txC c ++ [q.1]) = ((deepRow R (lsR c)).take i).map (fun q => txC c ++ [q.1]) ++ [txC c ++ [q.1]] := by rw [List.take_add_one, hi, List.map_append]; rfl
        have hdl : ((deepRow R (lsR c)).take i).length ≤ 5 := by
          rw [List.length_take]
          have : (deepRow R (lsR c)).length ≤ R.length := List.length_filter_le _ _
          (first | lia | omega)
        refine W_exprO (EvO_pushM (y := txC c ++ [q.1]) (by exact F.f11) (Ev.eq (Ev_cat (a := S (txC c)) (b := keyR q) (Ev_name (by exact F.f10)) (Ev_name rfl) ?_) (by unfold keyR; rw [S_append])) ?_ (by show 1 ≤ 6; decide)) (W_nil ⟨⟨F.st.k1, F.st.k2, F.st.k3, F.st.k4, F.st.k5, F.st.k6, F.st.k7, F.st.k8, F.st.k9⟩, F.f10, by rw [ei, ← List.append_assoc]; rfl⟩)
        · unfold keyR
          rw [S_length, S_length, hcl, sizeLine_eq]; simp; (first | lia | omega)
        · have := hC.plen j
          simp only [List.length_append, List.length_map, List.length_drop]
          (first | lia | omega)
      · intro ρ F
        have f11 := F.f11
        rw [List.length_map, List.take_length] at f11
        have eq1 : ((pushedC R CH j).drop (j + 1)).map txC ++ (deepRow R (lsR c)).map (fun q => txC c ++ [q.1]) = ((pushedC R CH (j + 1)).drop (j + 1)).map txC := by
          rw [pushed_succ hcj, List.drop_append_of_le_length hjp, List.map_append]
          congr 1
          unfold extC; rw [List.map_map]
          refine List.map_congr_left fun q _ => ?_
          simp [txC]
        rw [eq1] at f11
        refine W_nextChain (j := j + 1) hR hC hj hread f11 fun ρ1 hk1 hcur => W_nil ?_
        exact ⟨n - 1, by (first | lia | omega), j + 1, by (first | lia | omega), F.st.keep hk1, hcur⟩
    · rw [hdot] at hb
      simp at hb
      (first | lia | omega)
  · refine ⟨(S [46] != S [46]) && false, allTrue_and (Tst_cmp (P1 := isD w (.str (S [46]))) (Ev_name (by exact k10)) (Ev.eq (Ev_str) (d' := .str (S [46])) rfl) (.isD _) .neS) (fun h => by simp at h), fun h => by simp at h, fun _ => ?_⟩
    have k7 := K.k7
    have k8 := K.k8
    have k9 := K.k9
    rw [List.take_length] at k7 k8 k9
    exact hq ρ cc K.k1 K.k2 K.k3 K.k4 k11 K.k6 k7 k8 k9 k10
end Mine
end

noncomputable section -- V16
open PySem PyProof.Rows
set_option maxRecDepth 100000
namespace Mine

theorem Op2.neSame {c : Cx} {ρ : Loc} {a : Str} : Op2 c ρ (compareOp .NotEq) (isD c.w (.str a)) (isD c.w (.str a)) (isD c.w (.bool false)) := by
  have := Op2.neS (c := c) (ρ := ρ) (a := a) (b := a)
  rwa [bne_self_eq_false] at this
theorem EqOkW.le {w : World} {r r' : Nat} {P : D → D → Prop} (h : EqOkW w r P) (hr : r ≤ r') : EqOkW w r' P := fun A s μ v u d e hu => h A s μ v u d e (by (first | lia | omega))
noncomputable def dueR (R : List Row3) (r : Row3) : List (Str × Int × Int) := dueL (colC (pairR R)) (risL (pairR R)) (keyR r)
noncomputable def ksC (CH : List Chn) : List (Int × Str) := CH.map fun c => ((c.length : Int), S (txC c))
structure FinOk (R : List Row3) (CH : List Chn) : Prop where
  bk : ∀ r ∈ R, (bkF R CH r).a = (ownE r.2.2).a ∧ (bkF R CH r).b = (ownE r.2.2).b ∧ (bkF R CH r).c = (ownE r.2.2).c ∧ (bkF R CH r).d = (ownE r.2.2).d
  cl : ∀ r ∈ R, (bkF R CH r).cl.length = (wholeE R r).cl.length ∧ ∀ p ∈ (bkF R CH r).cl, p.1 ∈ (wholeE R r).cl.map (·.1) ∧ p.2 = (lookA (ownE r.2.2).cl p.1).getD 0
  tb : ∀ r ∈ R, (tbF CH r).length = (dueR R r).length ∧ ∀ x ∈ tbF CH r, lookA (dueR R r) x.1 = some x.2
  ord : ∀ i, i + 1 < CH.length → keyLt ((ksC CH).getD (i + 1) (0, ⟨#[]⟩)) ((ksC CH).getD i (0, ⟨#[]⟩)) = false
  two : 2 ≤ CH.length
  due : specTables [.str (S (nmR R)), .lst (R.map fun r => .str (S r.2.1))] (.dct (tabD (pairR R)))

theorem tabD_rows (R : List Row3) : tabD (pairR R) = R.map fun r => (keyR r, .dct ((dueR R r).map prD)) := by
  unfold tabD dueR
  conv => lhs; arg 2; unfold pairR
  rw [List.map_map]; rfl
noncomputable def whoF (e : En) (d : D) : Str × D := match d with
  | .str k => (k, .int ((lookA e.cl k).getD 0))
  | _ => (⟨#[]⟩, .none)
theorem En.cls_map (e : En) : e.cls = e.cl.map intD := rfl
theorem getD_cls (e : En) (k : Str) : (lookD e.cls k).getD (.int 0) = .int ((lookA e.cl k).getD 0) := by
  have : lookD e.cls k = (lookA e.cl k).map .int := lookD_map .int e.cl k
  rw [this]
  cases lookA e.cl k <;> rfl
theorem who_dct {R : List Row3} {CH : List Chn} (h : FinOk R CH) {r : Row3} (hr : r ∈ R) : DSame (fun d e => d = e ∧ flat d) (bkF R CH r).cls (((((wholeE R r).cls.map fun p => D.str p.1).map (whoF (ownE r.2.2)))).foldl putP []) := by
  obtain ⟨h1, h2⟩ := h.cl r hr
  have hw : EnOk (wholeE R r) := wholeE_ok _ _ (.own _)
  have e1 : ((wholeE R r).cls.map fun p => D.str p.1).map (whoF (ownE r.2.2)) = (wholeE R r).cl.map fun p => (p.1, .int ((lookA (ownE r.2.2).cl p.1).getD 0)) := by
    unfold En.cls; rw [List.map_map, List.map_map]; rfl
  have hnd : (((wholeE R r).cl.map fun p => (p.1, D.int ((lookA (ownE r.2.2).cl p.1).getD 0))).map (·.1)).Nodup := by rw [List.map_map]; exact hw.nd
  rw [e1, foldP_id hnd]
  refine ⟨?_, fun k d hk => ?_⟩
  · unfold En.cls; rw [List.length_map, List.length_map]; exact h1
  · rw [En.cls_map] at hk
    obtain ⟨p, hp, e⟩ := List.mem_map.mp hk
    cases e
    obtain ⟨a, b⟩ := h2 p hp
    obtain ⟨q, hq, eq⟩ := List.mem_map.mp a
    refine ⟨_, lookD_mem (p := (q.1, .int ((lookA (ownE r.2.2).cl q.1).getD 0))) hnd (List.mem_map.mpr ⟨q, hq, rfl⟩) |> (fun z => by rw [← eq]; exact z), ?_, trivial⟩
    rw [b, eq]
theorem tab_same {R : List Row3} {CH : List Chn} (hn : (nmR R).Nodup) (h : FinOk R CH) : DSame (fun d e => ∃ ds es, d = .dct ds ∧ e = .dct es ∧ DSame (fun d e => d = e ∧ flatT d) ds es) (tablesD R CH) (tabD (pairR R)) := by
  rw [tabD_rows]
  refine ⟨by unfold tablesD; rw [List.length_map, List.length_map], fun k d hk => ?_⟩
  obtain ⟨r, hr, e⟩ := List.mem_map.mp hk
  cases e
  obtain ⟨h1, h2⟩ := h.tb r hr
  refine ⟨_, rowD_look hn (fun r => .dct ((dueR R r).map prD)) hr, _, _, rfl, rfl, by rw [List.length_map, List.length_map]; exact h1, fun k d hk => ?_⟩
  obtain ⟨x, hx, e⟩ := List.mem_map.mp hk
  cases e
  have h3 := h2 x hx
  refine ⟨duoD x.2, ?_, rfl, ?_⟩
  · have : lookD ((dueR R r).map prD) x.1 = (lookA (dueR R r) x.1).map duoD := lookD_map duoD _ _
    show lookD ((dueR R r).map prD) x.1 = _
    rw [this, h3]; rfl
  · intro d hd
    simp only [List.mem_cons, List.not_mem_nil, or_false] at hd
    rcases hd with rfl | rfl <;> trivial

structure St5 (w : World) (R : List Row3) (CH : List Chn) (a d p t g wh bk tb cc : Addr) (ρ : Loc) : Prop where
  k1 : ρ "names" = some (.fz (.str (S (nmR R))))
  k2 : ρ "leads" = some (.fz (.lst (R.map fun r => .str (S r.2.1))))
  k3 : ρ "own" = some (.fz (.dct (ownR R)))
  k4 : ρ "text" = some (.fz (.str (S (txtR 0 R))))
  k5 : ρ "machine" = some (MC w a d p t g [] (endLn R) [])
  k6 : ρ "whole" = some (OD w wh (wholeD R))
  k7 : ρ "books" = some (OD w bk (booksD R CH))
  k8 : ρ "tables" = some (OD w tb (tablesD R CH))
  k9 : ρ "chains" = some (OL w cc (CH.map chD))
  k10 : ρ "chain" = some (.fz (.str (S [46])))
set_option maxHeartbeats 8000000 in
theorem law_5 {w : World} {A : Around} {s : Shared} {μ : Addr → Prop} {R : List Row3} {CH : List Chn} (hR : RowsOk R) (hC : ChOk R CH) (hF : FinOk R CH) {ρ : Loc} {a d p t g wh bk tb cc : Addr}
    (h1 : ρ "names" = some (.fz (.str (S (nmR R))))) (h2 : ρ "leads" = some (.fz (.lst (R.map fun r => .str (S r.2.1))))) (h3 : ρ "own" = some (.fz (.dct (ownR R)))) (h4 : ρ "text" = some (.fz (.str (S (txtR 0 R)))))
    (h5 : ρ "machine" = some (MC w a d p t g [] (endLn R) [])) (h6 : ρ "whole" = some (OD w wh (wholeD R))) (h7 : ρ "books" = some (OD w bk (booksD R CH))) (h8 : ρ "tables" = some (OD w tb (tablesD R CH))) (h9 : ρ "chains" = some (OL w cc (CH.map chD))) (h10 : ρ "chain" = some (.fz (.str (S [46])))) :
    W (lawG w A s μ) ρ (lawFrom 19) (fun o => ∃ ρ', o = .ret (.bool true) ρ') := by
  have hSt : ∀ x, fdLaw.scope.names.lookup x = some .cell → okName x = true → Storable (lawCx w A s μ) x := fun x h1 h2 => Storable_law h1 h2
  have hnd := hR.nd
  have hl5 : R.length ≤ 5 := by have := hR.len; (first | lia | omega)
  refine W_for (ds := R.map fun q => .str (keyR q)) (P1 := isD w (.str (S (nmR R)))) (fun _ => St5 w R CH a d p t g wh bk tb cc)
    (Ev_name (by exact h1)) (by rw [← signs_nm]; exact Itb.str) (hSt _ rfl rfl) ⟨h1, h2, h3, h4, h5, h6, h7, h8, h9, h10⟩ ?_ ?_
  · intro i dd ρ g' hd K
    obtain ⟨r, hRi, rfl⟩ := map_get hd
    have hrm := List.mem_of_getElem? hRi
    have hold : lookD (ownR R) (keyR r) = some (ownE r.2.2).D := rowD_look hnd (fun r => (ownE r.2.2).D) hrm
    have hbk : lookD (booksD R CH) (keyR r) = some (bkF R CH r).D := rowD_look hnd (fun r => (bkF R CH r).D) hrm
    have hwh : lookD (wholeD R) (keyR r) = some (wholeE R r).D := rowD_look hnd (fun r => (wholeE R r).D) hrm
    obtain ⟨b1, b2, b3, b4⟩ := hF.bk r hrm
    have e4 : (D.tup ([.int (bkF R CH r).a, .int (bkF R CH r).b, .int (bkF R CH r).c, .int (bkF R CH r).d, .dct (bkF R CH r).cls].take 4)) = .tup ([.int (ownE r.2.2).a, .int (ownE r.2.2).b, .int (ownE r.2.2).c, .int (ownE r.2.2).d, .dct (ownE r.2.2).cls].take 4) := by
      rw [b1, b2, b3, b4]; rfl
    refine W_if (b := false) (Tst_cmp (P1 := isD w (.tup [.int (ownE r.2.2).a, .int (ownE r.2.2).b, .int (ownE r.2.2).c, .int (ownE r.2.2).d])) (P2 := isD w (.tup [.int (ownE r.2.2).a, .int (ownE r.2.2).b, .int (ownE r.2.2).c, .int (ownE r.2.2).d])) (Ev.eq (Ev_tup4' (Ev_itemOD (x := "books") (a := bk) (l := booksD R CH) (k := keyR r) (by exact K.k7) (Ev_name rfl) hbk) Ev_int rfl) e4)
      (Ev_tup4' (EvV_sub (P2 := isD _ (.str (keyR r))) (Ev_name (d := .dct (ownR R)) (by exact K.k3)) (Ev_name rfl) (.isD _) (.itemD rfl hold)) Ev_int rfl) (.isD _) (.neTup (fun d hd => by
        simp only [List.mem_cons, List.not_mem_nil, or_false] at hd
        rcases hd with rfl | rfl | rfl | rfl <;> trivial))) (fun h => by cases h) fun _ => W_end ?_
    have ewho : ∀ p ∈ (wholeE R r).cls, True := fun _ _ => trivial
    refine W_if (b := false) (Tst_cmp (P1 := isD w (.dct (bkF R CH r).cls)) (P2 := isD w (.dct (((((wholeE R r).cls.map fun p => D.str p.1).map (whoF (ownE r.2.2)))).foldl putP []))) (EvV_sub (P1 := isD w (bkF R CH r).D) (P2 := isD _ (.int 4)) (Ev_itemOD (x := "books") (a := bk) (l := booksD R CH) (k := keyR r) (by exact K.k7) (Ev_name rfl) hbk) Ev_int (.isD _) (.itemT rfl (by decide) (by decide) rfl))
      (Ev_dictcomp (ds := (wholeE R r).cls.map fun p => D.str p.1) (P1 := isD w (.dct (wholeE R r).cls)) (whoF (ownE r.2.2)) (EvV_sub (P1 := isD w (wholeE R r).D) (P2 := isD _ (.int 4)) (Ev_itemOD (x := "whole") (a := wh) (l := wholeD R) (k := keyR r) (by exact K.k6) (Ev_name rfl) hwh) Ev_int (.isD _) (.itemT rfl (by decide) (by decide) rfl)) Itb.keys (fun C s μ j dj hd => ?_) ?_ rfl rfl (by decide) rfl rfl (by decide)) (.isD _) (.neDct (P := fun d e => d = e ∧ flat d) (EqOk.flat.w) (who_dct hF hrm))) (fun h => by cases h) fun _ => W_end (W_nil ⟨K.k1, K.k2, K.k3, K.k4, K.k5, K.k6, K.k7, K.k8, K.k9, K.k10⟩)
    · rw [List.getElem?_map] at hd
      cases hj : (wholeE R r).cls[j]? with
      | none => rw [hj] at hd; cases hd
      | some x =>
        rw [hj] at hd; cases hd
        refine ⟨Ev_name compLoc_x, ?_⟩
        show Ev _ _ _ (.int ((lookA (ownE r.2.2).cl x.1).getD 0))
        rw [← getD_cls]
        exact Ev_getD (EvV_sub (P1 := isD w (ownE r.2.2).D) (P2 := isD _ (.int 4)) (EvV_sub (P2 := isD _ (.str (keyR r))) (Ev_name (d := .dct (ownR R)) (compLoc_free (by exact K.k3) rfl rfl)) (Ev_name (compLoc_free (e := .str (keyR r)) rfl rfl rfl)) (.isD _) (.itemD rfl hold)) Ev_int (.isD _) (.itemT rfl (by decide) (by decide) rfl)) (Ev_name compLoc_x) Ev_int
    · have := (wholeE_ok (deepRow R r) _ (EnOk.own r.2.2)).len
      rw [List.length_map, sizeLine_eq, En.cls, List.length_map]
      unfold wholeE; (first | lia | omega)
  · intro ρ K
    refine W_freezeDB (x := "tables") lawG_S K.k8 ?_
    refine W_freezeLB (x := "chains") (a := cc) (l := CH.map chD) lawG_S (by exact K.k9) ?_
    have hkl : (ksC CH).length = CH.length := by unfold ksC; rw [List.length_map]
    have htwo := hF.two
    have hsz := hC.sz
    obtain ⟨u1, u2⟩ := kas_sort_up (n := (ksC CH).length) (lt := fun i j => keyLt ((ksC CH).getD i (0, ⟨#[]⟩)) ((ksC CH).getD j (0, ⟨#[]⟩))) (by (first | lia | omega)) (fun i hi => hF.ord i (by (first | lia | omega)))
    have hsrt : srt (ksC CH) = ksC CH := by
      unfold srt
      rw [u2]
      refine List.ext_getElem? fun i => ?_
      rw [List.getElem?_map]
      by_cases hi : i < (ksC CH).length
      · have e : (List.range (ksC CH).length).toArray.toList[i]? = some i := by simp [hi]
        rw [e]
        simp [List.getD_eq_getElem?_getD, hi]
      · have e : (List.range (ksC CH).length).toArray.toList[i]? = none := by simp; (first | lia | omega)
        rw [e, List.getElem?_eq_none (by (first | lia | omega))]; rfl
    have hck : CH.map chD = (ksC CH).map keyD := by unfold ksC; rw [List.map_map]; rfl
    refine W_if (b := false || false) (allTrue_or (Tst_cmp (P1 := isD w (.dct (tablesD R CH))) (P2 := isD w (.dct (tabD (pairR R)))) (Ev_name rfl) (Ev_call (fn_tables w) (by exact mem_lk (by kernel_rfl)) (fd := fdTables) (by exact mem_lkA rfl) rfl (EvL_cons (Ev_name (by exact K.k1)) (EvL_cons (Ev_name (by exact K.k2)) EvL_nil)) hF.due (by show 2 ≤ 6; decide)) (.isD _) (.neDct ((EqOkW.dct (EqOk.tup (r := 0)).w).le (r' := 5) (by decide)) (tab_same hnd hF))) fun _ =>
      Tst_cmp (P1 := isD w (.lst (CH.map chD))) (P2 := isD w (.lst (CH.map chD))) (Ev_name rfl) (Ev.eq (EvV_b1 (P1 := isD w (.lst ((ksC CH).map keyD))) (P := isD w (.lst ((srt (ksC CH)).map keyD))) (Ev_name (by rw [← hck]; rfl)) (.sorted (by (first | lia | omega)) (by (first | lia | omega)) u1 (by rw [u2]; intro i hi; simpa using hi)) (by decide) boot_sorted rfl) (by rw [hsrt, hck])) (.isD _) (.neLst fun d hd => by
        obtain ⟨c, _, rfl⟩ := List.mem_map.mp hd
        intro e he
        simp only [List.mem_cons, List.not_mem_nil, or_false] at he
        rcases he with rfl | rfl <;> trivial)) (fun h => by cases h) fun _ => W_end ?_
    refine W_if_orF (xn := "machine") (lv := MC w a d p t g [] (endLn R) []) (Tst_cmp (P1 := isD w (.str (S [46]))) (P2 := isD w (.str (S [46]))) (Ev_name (by exact K.k10)) (Ev.eq Ev_str (d' := .str (S [46])) rfl) (.isD _) Op2.neSame)
      (TstO_cmp (d1 := .str (S [])) (P2 := isD w (.str (S []))) (EvO.eq (EvO_tok0 (by exact K.k5) (by decide) (by show 5 ≤ 6; decide)) rfl rfl) (Ev.eq Ev_str (d' := .str (S [])) rfl) Op2.neSame) ?_
    refine W_ret (d := .bool (endLn R == (((txtR 0 R).count 10 : Nat) : Int) + 1)) (EvV_cmp (P1 := isD w (.int (endLn R))) (P2 := isD w (.int ((((txtR 0 R).count 10 : Nat) : Int) + 1))) ?_ ?_ (.isD _) .eqI) ?_
    · exact Ev_lineno (by rfl) (by with_unfolding_all rfl)
    · refine Ev_add ?_ Ev_int
      refine Ev.eq (Ev_count1 (x := S (txtR 0 R)) (k := 10) (Ev_name (by exact K.k4)) (Ev.eq Ev_str rfl)) ?_
      rw [S_cps]
    · have : (endLn R == (((txtR 0 R).count 10 : Nat) : Int) + 1) = true := by rw [beq_iff_eq]; unfold endLn; (first | lia | omega)
      rw [this]
      exact ⟨_, rfl⟩
end Mine
end

noncomputable section -- V17
open PySem PyProof.Rows
set_option maxRecDepth 100000
namespace Mine

theorem StM.g145 {c : Cx} {μ : Addr → Prop} {ρ : Loc} {s : Shared} (t : StM c μ ρ s) (h : μ 145) : StM (c.guard 145) μ ρ s :=
  t.guard h (by decide) (fun z => absurd (t.frame.big _ z) (by decide)) fun x l e z => absurd ((t.frame.own x l e).2.2 _ z).2.2.2.2 (by decide)

theorem fn_law {w : World} {A : Around} {μ : Addr → Prop} {s : Shared} {v : Value} {xs : List Int} {CH : List Chn} (hA : Room A 7) (hG : G w s.heap) (hμ : MuOk μ s.heap) (h145 : μ 145) (ht : s.heap.get? 145 = some (PySem.W.tabObj #[])) (hr : RpL w μ s.heap [v] [.lst (xs.map .int)]) (hl : xs.length ≤ 63)
    (hC : ChOk (rowsOf xs) CH) (hF : FinOk (rowsOf xs) CH) :
    codeAny (model PG w) A (.call (.ref 184) ⟨[v], []⟩) (RetR fun r s' => r = .bool true ∧ (∀ b o, s.heap.get? b = some o → b ≠ 72 → b ≠ 145 → s'.heap.get? b = some o) ∧ (∃ ws, s'.heap.get? 145 = some (PySem.W.tabObj ws)) ∧ Tab s'.heap ∧ s'.os = s.os ∧ (AllBare s.gens → AllBare s'.gens)) s := by
  have hR := rowsOf_ok xs
  refine wp_enter (fd := fdLaw) (n := 6) (body := bodyOf (topSt 15)) (ps := [Str.ofString "script"]) (as := [145]) (ds := [.lst (xs.map .int)]) (by exact mem_lkA rfl) rfl ?_ rfl rfl (by decide) (by decide) (by decide) rfl rfl rfl rfl rfl hA hG hμ hr (fun s₁ t1 x1 hfp => ?_)
  · exact vs1 fun _ => rfl
  have t1' : StM (lawCx w A s μ) (fun b => μ b ∨ b ∈ (lawCx w A s μ).fp) (locOf Loc.nil [Str.ofString "script"] [.lst (xs.map .int)]) s₁ := t1
  have e1 : s₁.heap.get? 145 = some (PySem.W.tabObj #[]) := x1.keep _ _ ht (by decide)
  rw [← List.take_append_drop 8 (bodyOf (topSt 15))]
  refine wp_execs_append (wpAny_mono (law_1 (w := w) (A := A) (s := s) (μ := μ) (xs := xs) (ρ := locOf Loc.nil [Str.ofString "script"] [.lst (xs.map .int)]) rfl hl _ s₁ (t1'.g145 (.inl h145))) (fun f s2 q => ?_) fun _ _ z => z)
  obtain ⟨o, μ2, ⟨ρ2, rfl, q1, q2, q3, q4, q5⟩, ⟨rfl, t2⟩, mv2⟩ := q
  have e2 : s2.heap.get? 145 = some (PySem.W.tabObj #[]) := mv2.frz _ _ (.inr (.inr rfl)) e1
  have m145 : μ2 145 := t2.prM 145 (.inr rfl)
  have t2u := t2.unguard
  show wpAny _ _ (execs ((bodyOf (topSt 15)).drop 8) _) _ _ _
  have htl : (txtR 0 (rowsOf xs)).length ≤ 75 := by
    have := txtR_len (R := rowsOf xs) (fun x hx => hR.ld4 x hx) 0
    have := hR.len
    (first | lia | omega)
  refine wp_machine (cs := txtR 0 (rowsOf xs) ++ [46]) (x := Str.ofString "machine") t2u m145 (by show (145 : Addr) ∈ [145]; simp) (fun z => z) e2 (Ev.eq (Ev_cat (a := S (txtR 0 (rowsOf xs))) (b := S [46]) (Ev_name q5) (Ev.eq Ev_str rfl) ?_) (by rw [S_append])) (by simp; (first | lia | omega)) ⟨rfl, .inl rfl⟩ (by show 4 ≤ 6; decide) rfl (fun a d p t g μ3 s3 t3 mv3 h3 hws => ?_)
  · rw [S_length, S_length, sizeLine_eq]; simp; (first | lia | omega)
  obtain ⟨ws, e3⟩ := hws
  have key : W (lawG w A s μ) (upd ρ2 (Str.ofString "machine") (MC w a d p t g (txtR 0 (rowsOf xs) ++ [46]) 1 [])) (lawFrom 9) (fun o => ∃ ρ', o = .ret (.bool true) ρ') :=
    law_2 hR (by exact q1) (by exact q2) (by exact q3) (by exact q4) (by exact q5) rfl fun ρ' rem ln g1 g2 g3 g4 g5 g6 g7 =>
      law_3 hR g1 g2 g3 g4 g5 g6 fun ρ' dp wh bk tb f1 f2 f3 f4 f5 f6 f7 f8 f9 =>
        law_4 hR hC g7 f1 f2 f3 f4 f5 f6 f7 f8 f9 fun ρ' cc k1 k2 k3 k4 k5 k6 k7 k8 k9 k10 =>
          law_5 hR hC hF k1 k2 k3 k4 k5 k6 k7 k8 k9 k10
  refine wpAny_mono (key μ3 s3 (t3.g145 h3)) (fun f s4 q => ?_) fun _ _ z => z
  obtain ⟨o, μ4, ⟨ρ4, rfl⟩, ⟨vr, rfl, t4, rv⟩, mv4⟩ := q
  cases rv
  have t4u := t4.unguard
  refine ⟨rfl, fun b o e n1 n2 => t4u.keep b o e (fun z => n2 (List.mem_singleton.mp z)) n1, ⟨ws, mv4.frz _ _ (.inr (.inr rfl)) e3⟩, t4u.g.tab, t4u.os, t4u.bare⟩
end Mine
end

noncomputable section -- V18
open PySem PyProof.Rows
set_option maxRecDepth 100000
namespace Mine

section
variable {R : List Row3}
theorem ltC_irr (a : List Int) : ltC a a = false := by
  unfold ltC
  rw [List.all_eq_false]
  exact ⟨0, by simp, by simp⟩
theorem ltC_trans {a b c : List Int} (h1 : ltC a b = true) (h2 : ltC b c = true) : ltC a c = true := by
  unfold ltC at *
  rw [List.all_eq_true] at *
  intro k hk
  have := h1 k hk
  have := h2 k hk
  rw [decide_eq_true_eq] at *
  (first | lia | omega)
theorem RowsOk.irr (h : RowsOk R) {r : Row3} (hr : r ∈ R) : ltR r r = false := by rw [h.lt hr hr]; exact ltC_irr _
theorem RowsOk.trans (h : RowsOk R) {r q p : Row3} (hr : r ∈ R) (hq : q ∈ R) (hp : p ∈ R) (h1 : ltR r q = true) (h2 : ltR q p = true) : ltR r p = true := by
  rw [h.lt hr hq] at h1; rw [h.lt hq hp] at h2; rw [h.lt hr hp]
  exact ltC_trans h1 h2
noncomputable abbrev Ltp (c : Chn) : Prop := c.Pairwise fun x y => ltR x y = true
structure GoodC (R : List Row3) (c : Chn) : Prop where
  ne : c ≠ []
  mem : ∀ x ∈ c, x ∈ R
  pw : Ltp c
theorem lsR_snoc (c : Chn) (q : Row3) : lsR (c ++ [q]) = q := by unfold lsR; rw [List.getLastD_eq_getLast?]; simp
theorem hdR_snoc {c : Chn} (h : c ≠ []) (q : Row3) : hdR (c ++ [q]) = hdR c := by
  cases c with
  | nil => exact absurd rfl h
  | cons a c => rfl
theorem split_last {c : Chn} (h : c ≠ []) : ∃ i, c = i ++ [lsR c] := by
  refine ⟨c.dropLast, ?_⟩
  have e : lsR c = c.getLast h := by
    have := lsR_last h
    rw [List.getLast?_eq_some_getLast h] at this
    exact (Option.some.inj this).symm
  rw [e]; exact (List.dropLast_concat_getLast h).symm
theorem GoodC.le_last {c : Chn} (h : GoodC R c) : ∀ x ∈ c, x = lsR c ∨ ltR x (lsR c) = true := by
  obtain ⟨i, e⟩ := split_last h.ne
  intro x hx
  have hp := h.pw
  rw [e] at hx hp
  rcases List.mem_append.mp hx with hx | hx
  · exact .inr ((List.pairwise_append.mp hp).2.2 x hx _ (List.mem_singleton.mpr rfl))
  · exact .inl (List.mem_singleton.mp hx)
theorem GoodC.hd_le {c : Chn} (h : GoodC R c) : hdR c = lsR c ∨ ltR (hdR c) (lsR c) = true := h.le_last _ (hdR_mem h.ne)
theorem mem_deep {r q : Row3} : q ∈ deepRow R r ↔ q ∈ R ∧ ltR r q = true := by unfold deepRow; rw [List.mem_filter]
theorem GoodC.snoc (hR : RowsOk R) {c : Chn} (h : GoodC R c) {q : Row3} (hq : q ∈ deepRow R (lsR c)) : GoodC R (c ++ [q]) := by
  obtain ⟨h1, h2⟩ := mem_deep.mp hq
  refine ⟨by simp, fun x hx => ?_, ?_⟩
  · rcases List.mem_append.mp hx with hx | hx
    · exact h.mem x hx
    · rw [List.mem_singleton.mp hx]; exact h1
  · show List.Pairwise _ _
    rw [List.pairwise_append]
    refine ⟨h.pw, List.pairwise_singleton _ _, fun x hx y hy => ?_⟩
    rw [List.mem_singleton.mp hy]
    rcases h.le_last x hx with e | e
    · rw [e]; exact h2
    · exact hR.trans (h.mem x hx) (h.mem _ (lsR_mem h.ne)) h1 e h2
theorem Ltp.nodup (hR : RowsOk R) {c : Chn} (hm : ∀ x ∈ c, x ∈ R) (h : Ltp c) : c.Nodup := by
  have : c.Pairwise fun x y => x ≠ y := by
    refine List.Pairwise.imp_of_mem (R := fun x y => ltR x y = true) (fun {x y} hx hy hlt e => ?_) h
    rw [e, hR.irr (hm y hy)] at hlt
    exact absurd hlt (by decide)
  exact this

noncomputable def Lv (R : List Row3) : Nat → List Chn
  | 0 => ones R
  | i + 1 => (Lv R i).flatMap (extC R)
noncomputable def chainsR (R : List Row3) : List Chn := Lv R 0 ++ (Lv R 1 ++ (Lv R 2 ++ (Lv R 3 ++ Lv R 4)))
theorem Lv_good (hR : RowsOk R) : ∀ {i : Nat} {c : Chn}, c ∈ Lv R i → GoodC R c ∧ c.length = i + 1
  | 0, c, h => by
    obtain ⟨r, hr, rfl⟩ := List.mem_map.mp h
    exact ⟨⟨by simp, fun x hx => by rw [List.mem_singleton.mp hx]; exact hr, List.pairwise_singleton _ _⟩, rfl⟩
  | i + 1, c, h => by
    obtain ⟨c', hc', h⟩ := List.mem_flatMap.mp h
    obtain ⟨q, hq, rfl⟩ := List.mem_map.mp h
    obtain ⟨g, l⟩ := Lv_good hR hc'
    exact ⟨g.snoc hR hq, by simp [l]⟩
theorem GoodC.len (hR : RowsOk R) {c : Chn} (h : GoodC R c) : c.length ≤ R.length := nodup_len (Ltp.nodup hR h.mem h.pw) h.mem
theorem Lv5 (hR : RowsOk R) : Lv R 5 = [] := by
  rw [List.eq_nil_iff_forall_not_mem]
  intro c hc
  obtain ⟨g, l⟩ := Lv_good hR hc
  have := g.len hR
  have := hR.len
  (first | lia | omega)
theorem chains_good (hR : RowsOk R) {c : Chn} (h : c ∈ chainsR R) : GoodC R c := by
  unfold chainsR at h
  simp only [List.mem_append] at h
  rcases h with h | h | h | h | h <;> exact (Lv_good hR h).1
theorem chains_fix (hR : RowsOk R) : ones R ++ (chainsR R).flatMap (extC R) = chainsR R := by
  unfold chainsR
  simp only [List.flatMap_append]
  show Lv R 0 ++ (Lv R 1 ++ (Lv R 2 ++ (Lv R 3 ++ (Lv R 4 ++ Lv R 5)))) = _
  rw [Lv5 hR, List.append_nil]
theorem take_over {α : Type} {A B : List α} {j : Nat} (h : A.length ≤ j) : (A ++ B).take j = A ++ B.take (j - A.length) := by
  rw [List.take_append, List.take_of_length_le h]
theorem chains_prog (hR : RowsOk R) (j : Nat) (hj : j < (chainsR R).length) : j < (pushedC R (chainsR R) j).length := by
  have step : ∀ A B : List Chn, chainsR R = A ++ B → A.length ≤ j → (ones R).length + (A.flatMap (extC R)).length ≤ (pushedC R (chainsR R) j).length := by
    intro A B e h
    unfold pushedC
    rw [e, take_over h, List.flatMap_append, List.length_append, List.length_append]
    (first | lia | omega)
  have l : (chainsR R).length = (Lv R 0).length + ((Lv R 1).length + ((Lv R 2).length + ((Lv R 3).length + (Lv R 4).length))) := by
    unfold chainsR; simp only [List.length_append]
  have s0 := step [] (chainsR R) rfl (Nat.zero_le _)
  have e0 : (ones R).length = (Lv R 0).length := rfl
  have f1 : ((Lv R 0).flatMap (extC R)).length = (Lv R 1).length := rfl
  have f2 : ((Lv R 1).flatMap (extC R)).length = (Lv R 2).length := rfl
  have f3 : ((Lv R 2).flatMap (extC R)).length = (Lv R 3).length := rfl
  have f4 : ((Lv R 3).flatMap (extC R)).length = (Lv R 4).length := rfl
  by_cases h0 : j < (Lv R 0).length
  · (first | lia | omega)
  have s1 := step (Lv R 0) _ rfl (by (first | lia | omega))
  by_cases h1 : j < (Lv R 0).length + (Lv R 1).length
  · (first | lia | omega)
  have s2 := step (Lv R 0 ++ Lv R 1) (Lv R 2 ++ (Lv R 3 ++ Lv R 4)) (by unfold chainsR; simp) (by rw [List.length_append]; (first | lia | omega))
  rw [List.flatMap_append, List.length_append] at s2
  by_cases h2 : j < (Lv R 0).length + (Lv R 1).length + (Lv R 2).length
  · (first | lia | omega)
  have s3 := step (Lv R 0 ++ Lv R 1 ++ Lv R 2) (Lv R 3 ++ Lv R 4) (by unfold chainsR; simp) (by rw [List.length_append, List.length_append]; (first | lia | omega))
  rw [List.flatMap_append, List.length_append, List.flatMap_append, List.length_append] at s3
  by_cases h3 : j < (Lv R 0).length + (Lv R 1).length + (Lv R 2).length + (Lv R 3).length
  · (first | lia | omega)
  have s4 := step (Lv R 0 ++ Lv R 1 ++ Lv R 2 ++ Lv R 3) (Lv R 4) (by unfold chainsR; simp) (by rw [List.length_append, List.length_append, List.length_append]; (first | lia | omega))
  rw [List.flatMap_append, List.length_append, List.flatMap_append, List.length_append, List.flatMap_append, List.length_append] at s4
  (first | lia | omega)
end
end Mine
end

noncomputable section -- V19
open PySem PyProof.Rows
set_option maxRecDepth 100000
namespace Mine

section
variable {R : List Row3}
theorem lt_snoc {a b : Nat} (h : a < b) : ∀ l : List Nat, l ++ [a] < l ++ [b]
  | [] => by show [a] < [b]; rw [List.cons_lt_cons_iff]; exact .inl h
  | x :: l => by show x :: (l ++ [a]) < x :: (l ++ [b]); rw [List.cons_lt_cons_iff]; exact .inr ⟨rfl, lt_snoc h l⟩
theorem lt_ext : ∀ {l m : List Nat} (s t : List Nat), l.length = m.length → l < m → l ++ s < m ++ t
  | [], [], s, t, _, h => absurd h (List.lt_irrefl _)
  | [], _ :: _, s, t, e, _ => by cases e
  | _ :: _, [], s, t, e, _ => by cases e
  | x :: l, y :: m, s, t, e, h => by
    show x :: (l ++ s) < y :: (m ++ t)
    rw [List.cons_lt_cons_iff] at h ⊢
    rcases h with h | ⟨h1, h2⟩
    · exact .inl h
    · exact .inr ⟨h1, lt_ext s t (by simpa using e) h2⟩
noncomputable def lx (c c' : Chn) : Prop := txC c < txC c'
theorem RowsOk.asc (h : RowsOk R) : R.Pairwise fun r q => r.1 < q.1 := by
  have : (nmR R).Pairwise (· < ·) := by
    rw [h.nm]
    exact (show ([97, 98, 99, 100, 101] : List Nat).Pairwise (· < ·) by decide).sublist (List.take_sublist _ _)
  unfold nmR at this
  rwa [List.pairwise_map] at this
theorem Lv_lx (hR : RowsOk R) : ∀ i, (Lv R i).Pairwise lx
  | 0 => by
    show (R.map fun r => [r]).Pairwise lx
    rw [List.pairwise_map]
    refine hR.asc.imp fun {r q} h => ?_
    show [r.1] < [q.1]
    rw [List.cons_lt_cons_iff]; exact .inl h
  | i + 1 => by
    show ((Lv R i).flatMap (extC R)).Pairwise lx
    rw [List.pairwise_flatMap]
    constructor
    · intro c _
      unfold extC
      rw [List.pairwise_map]
      refine List.Pairwise.imp (fun {r q} h => ?_) (hR.asc.sublist List.filter_sublist)
      show txC (c ++ [r]) < txC (c ++ [q])
      unfold txC
      rw [List.map_append, List.map_append]
      exact lt_snoc h _
    · refine List.Pairwise.imp_of_mem (fun {c c'} hc hc' h x hx y hy => ?_) (Lv_lx hR i)
      obtain ⟨q, _, rfl⟩ := List.mem_map.mp hx
      obtain ⟨q', _, rfl⟩ := List.mem_map.mp hy
      show txC (c ++ [q]) < txC (c' ++ [q'])
      unfold txC
      rw [List.map_append, List.map_append]
      refine lt_ext _ _ ?_ h
      rw [List.length_map, List.length_map, (Lv_good hR hc).2, (Lv_good hR hc').2]
noncomputable def lo (c c' : Chn) : Prop := c.length < c'.length ∨ (c.length = c'.length ∧ lx c c')
theorem Lv_lo (hR : RowsOk R) (i : Nat) : (Lv R i).Pairwise lo :=
  List.Pairwise.imp_of_mem (fun {c c'} hc hc' h => .inr ⟨by rw [(Lv_good hR hc).2, (Lv_good hR hc').2], h⟩) (Lv_lx hR i)
theorem app_lo {l : List Chn} {n : Nat} {m : List Chn} (hl : l.Pairwise lo) (hm : m.Pairwise lo) (h1 : ∀ c ∈ l, c.length ≤ n) (h2 : ∀ c ∈ m, n < c.length) : (l ++ m).Pairwise lo := by
  rw [List.pairwise_append]
  exact ⟨hl, hm, fun c hc c' hc' => .inl (Nat.lt_of_le_of_lt (h1 c hc) (h2 c' hc'))⟩
theorem chains_lo (hR : RowsOk R) : (chainsR R).Pairwise lo := by
  have g : ∀ {i : Nat} {c : Chn}, c ∈ Lv R i → c.length = i + 1 := fun h => (Lv_good hR h).2
  unfold chainsR
  refine app_lo (n := 1) (Lv_lo hR 0) (app_lo (n := 2) (Lv_lo hR 1) (app_lo (n := 3) (Lv_lo hR 2) (app_lo (n := 4) (Lv_lo hR 3) (Lv_lo hR 4) ?_ ?_) ?_ ?_) ?_ ?_) ?_ ?_
  all_goals
    intro c hc
    try simp only [List.mem_append] at hc
    first
      | (have := g hc; (first | lia | omega))
      | (rcases hc with hc | hc <;> (have := g hc; (first | lia | omega)))
      | (rcases hc with hc | hc | hc <;> (have := g hc; (first | lia | omega)))
      | (rcases hc with hc | hc | hc | hc <;> (have := g hc; (first | lia | omega)))
theorem lo_irr {c : Chn} : ¬ lo c c := by
  rintro (h | ⟨_, h⟩)
  · exact Nat.lt_irrefl _ h
  · exact List.lt_irrefl _ h
theorem lo_key {c c' : Chn} (h : lo c c') : keyLt ((c'.length : Int), S (txC c')) ((c.length : Int), S (txC c)) = false := by
  unfold keyLt
  rcases h with h | ⟨h1, h2⟩
  · rw [if_neg (by show ¬ (c'.length : Int) = c.length; (first | lia | omega))]
    exact decide_eq_false (by show ¬ (c'.length : Int) < c.length; (first | lia | omega))
  · rw [if_pos (by show (c'.length : Int) = c.length; (first | lia | omega))]
    refine decide_eq_false ?_
    show ¬ (S (txC c')).cps.toList < (S (txC c)).cps.toList
    rw [S_cps, S_cps]
    exact List.lt_asymm h2
theorem chains_ord (hR : RowsOk R) (i : Nat) (hi : i + 1 < (chainsR R).length) : keyLt ((ksC (chainsR R)).getD (i + 1) (0, ⟨#[]⟩)) ((ksC (chainsR R)).getD i (0, ⟨#[]⟩)) = false := by
  have h := List.pairwise_iff_getElem.mp (chains_lo hR) i (i + 1) (by (first | lia | omega)) hi (by (first | lia | omega))
  have e : ∀ k (hk : k < (chainsR R).length), (ksC (chainsR R)).getD k (0, ⟨#[]⟩) = (((chainsR R)[k].length : Int), S (txC (chainsR R)[k])) := fun k hk => by
    unfold ksC
    rw [List.getD_eq_getElem?_getD, List.getElem?_map, List.getElem?_eq_getElem hk]; rfl
  rw [e _ hi, e _ (by (first | lia | omega))]
  exact lo_key h
theorem chains_nodup (hR : RowsOk R) : (chainsR R).Nodup := by
  have : (chainsR R).Pairwise fun a b => a ≠ b := (chains_lo hR).imp fun {a b} h (e : a = b) => lo_irr (c := b) (by rw [e] at h; exact h)
  exact this
end
end Mine
end

noncomputable section -- V20
open PySem PyProof.Rows
set_option maxRecDepth 100000
namespace Mine

section
variable {R : List Row3}
theorem asym (hR : RowsOk R) {x y : Row3} (hx : x ∈ R) (hy : y ∈ R) (h1 : ltR x y = true) (h2 : ltR y x = true) : False := by
  have := hR.trans hx hy hx h1 h2
  rw [hR.irr hx] at this; cases this
theorem pw_ext (hR : RowsOk R) : ∀ {c d : Chn}, (∀ x ∈ c, x ∈ R) → (∀ x ∈ d, x ∈ R) → Ltp c → Ltp d → (∀ x, x ∈ c ↔ x ∈ d) → c = d
  | [], [], _, _, _, _, _ => rfl
  | [], y :: d, _, _, _, _, h => absurd ((h y).mpr List.mem_cons_self) (by simp)
  | x :: c, [], _, _, _, _, h => absurd ((h x).mp List.mem_cons_self) (by simp)
  | x :: c, y :: d, h1, h2, p1, p2, h => by
    have nc := Ltp.nodup hR h1 p1
    have nd := Ltp.nodup hR h2 p2
    have p1' := List.pairwise_cons.mp p1
    have p2' := List.pairwise_cons.mp p2
    have hxy : x = y := by
      rcases List.mem_cons.mp ((h x).mp List.mem_cons_self) with e | hx
      · exact e
      · rcases List.mem_cons.mp ((h y).mpr List.mem_cons_self) with e | hy
        · exact e.symm
        · exact (asym hR (h1 x List.mem_cons_self) (h2 y List.mem_cons_self) (p1'.1 y hy) (p2'.1 x hx)).elim
    subst hxy
    rw [List.nodup_cons] at nc nd
    have := pw_ext hR (c := c) (d := d) (fun z hz => h1 z (List.mem_cons_of_mem _ hz)) (fun z hz => h2 z (List.mem_cons_of_mem _ hz)) p1'.2 p2'.2 fun z => by
      have := h z
      simp only [List.mem_cons] at this
      constructor
      · intro hz
        rcases this.mp (.inr hz) with e | e
        · exact absurd (e ▸ hz) nc.1
        · exact e
      · intro hz
        rcases this.mpr (.inr hz) with e | e
        · exact absurd (e ▸ hz) nd.1
        · exact e
    rw [this]
noncomputable def mask (R : List Row3) (c : Chn) : List Nat := R.map fun r => if r ∈ c then 1 else 0
theorem mask_inj (hR : RowsOk R) {c d : Chn} (hc : GoodC R c) (hd : GoodC R d) (h : mask R c = mask R d) : c = d := by
  have h' := List.map_inj_left.mp h
  refine pw_ext hR hc.mem hd.mem hc.pw hd.pw fun x => ?_
  constructor
  · intro hx
    have := h' x (hc.mem x hx)
    rw [if_pos hx] at this
    by_cases hd' : x ∈ d
    · exact hd'
    · rw [if_neg hd'] at this; cases this
  · intro hx
    have := h' x (hd.mem x hx)
    rw [if_pos hx] at this
    by_cases hc' : x ∈ c
    · exact hc'
    · rw [if_neg hc'] at this; cases this
theorem masks : (allRanks 2 4).length = 16 ∧ (allRanks 2 5).length = 32 := by decide +kernel
theorem chains_sz (hR : RowsOk R) : (chainsR R).length ≤ 63 := by
  have hn : ((chainsR R).map (mask R)).Nodup := by
    have : ((chainsR R).map (mask R)).Pairwise fun a b => a ≠ b := by
      rw [List.pairwise_map]
      refine List.Pairwise.imp_of_mem (R := fun a b => a ≠ b) (fun {c d} hc hd h e => h (mask_inj hR (chains_good hR hc) (chains_good hR hd) e)) (chains_nodup hR)
    exact this
  have := nodup_len (m := allRanks 2 R.length) hn fun x hx => by
    obtain ⟨c, _, rfl⟩ := List.mem_map.mp hx
    refine mem_allRanks (by simp [mask]) fun y hy => ?_
    obtain ⟨r, _, rfl⟩ := List.mem_map.mp hy
    split <;> (first | lia | omega)
  rw [List.length_map] at this
  have m := masks
  rcases hR.len with e | e <;> rw [e] at this <;> (first | lia | omega)
theorem chains_ok (hR : RowsOk R) : ChOk R (chainsR R) where
  ne := fun c h => (chains_good hR h).ne
  mem := fun c h => (chains_good hR h).mem
  len := fun c h => (chains_good hR h).len hR
  fix := chains_fix hR
  prog := chains_prog hR
  sz := chains_sz hR
theorem chains_two (hR : RowsOk R) : 2 ≤ (chainsR R).length := by
  have : (Lv R 0).length = R.length := by show (R.map _).length = _; rw [List.length_map]
  have := hR.len
  unfold chainsR
  simp only [List.length_append]; (first | lia | omega)
end
end Mine
end

noncomputable section -- V21
open PySem PyProof.Rows
set_option maxRecDepth 100000
namespace Mine

section
variable {R : List Row3}
structure Lin (φ : En → Int) : Prop where
  zero : φ En.zero = 0
  neg : ∀ e s, φ (e.neg s) = φ e * s
  add : ∀ t s, EnOk t → EnOk s → φ (t.add s) = φ t + φ s
theorem wholeE_en (r : Row3) : EnOk (wholeE R r) := wholeE_ok _ _ (.own _)
theorem whole_foldl {φ : En → Int} (h : Lin φ) : ∀ (l : List Row3) (e : En), EnOk e → φ (l.foldl (fun e q => e.add (ownE q.2.2)) e) = φ e + (l.map fun q => φ (ownE q.2.2)).sum
  | [], e, _ => by simp
  | q :: l, e, he => by
    rw [List.foldl_cons, whole_foldl h l _ (he.add (.own _)), h.add _ _ he (.own _), List.map_cons, List.sum_cons]; (first | lia | omega)
theorem whole_lin {φ : En → Int} (h : Lin φ) (r : Row3) : φ (wholeE R r) = φ (ownE r.2.2) + ((deepRow R r).map fun q => φ (ownE q.2.2)).sum := whole_foldl h _ _ (.own _)
theorem bk_foldl {φ : En → Int} (h : Lin φ) : ∀ (l : List Chn) (e : En), EnOk e → φ (l.foldl (fun e c => e.add ((wholeE R (lsR c)).neg (sgn c))) e) = φ e + (l.map fun c => φ (wholeE R (lsR c)) * sgn c).sum
  | [], e, _ => by simp
  | c :: l, e, he => by
    rw [List.foldl_cons, bk_foldl h l _ (he.add ((wholeE_en _).neg _)), h.add _ _ he ((wholeE_en _).neg _), h.neg, List.map_cons, List.sum_cons]; (first | lia | omega)
noncomputable def fromR (r : Row3) (c : Chn) : Bool := decide (keyR (hdR c) = keyR r)
noncomputable def sumS (l : List Chn) (r : Row3) (v : Row3 → Int) : Int := ((l.filter (fromR r)).map fun c => v (lsR c)).sum
theorem sumS_ext (r : Row3) (v : Row3 → Int) : ∀ l : List Chn, (∀ c ∈ l, c ≠ []) → sumS (l.flatMap (extC R)) r v = ((l.filter (fromR r)).map fun c => ((deepRow R (lsR c)).map v).sum).sum
  | [], _ => rfl
  | c :: l, h => by
    have ih := sumS_ext r v l fun x hx => h x (List.mem_cons_of_mem _ hx)
    have hc := h c List.mem_cons_self
    unfold sumS at ih ⊢
    rw [List.flatMap_cons, List.filter_append, List.map_append, List.sum_append, ih]
    have e : ∀ q, fromR r (c ++ [q]) = fromR r c := fun q => by unfold fromR; rw [hdR_snoc hc]
    by_cases hf : fromR r c = true
    · rw [List.filter_cons, if_pos hf, List.map_cons, List.sum_cons]
      congr 1
      rw [List.filter_eq_self.mpr]
      · unfold extC
        rw [List.map_map]
        congr 1
        exact List.map_congr_left fun q _ => by show v (lsR (c ++ [q])) = v q; rw [lsR_snoc]
      · intro x hx
        obtain ⟨q, _, rfl⟩ := List.mem_map.mp hx
        rw [e]; exact hf
    · rw [List.filter_cons, if_neg hf]
      have : (extC R c).filter (fromR r) = [] := by
        rw [List.filter_eq_nil_iff]
        intro x hx
        obtain ⟨q, _, rfl⟩ := List.mem_map.mp hx
        rw [e]; exact hf
      rw [this]; simp
theorem filter_key {r : Row3} (hn : (nmR R).Nodup) (hr : r ∈ R) : R.filter (fun q => decide (keyR q = keyR r)) = [r] := by
  induction R with
  | nil => cases hr
  | cons q R ih =>
    have hn' := hn
    unfold nmR at hn
    rw [List.map_cons, List.nodup_cons] at hn
    rw [List.filter_cons]
    by_cases e : keyR q = keyR r
    · have hqr := keyR_inj hn' List.mem_cons_self hr e
      rw [if_pos (by simpa using e), hqr]
      congr 1
      rw [List.filter_eq_nil_iff]
      intro x hx hxe
      refine hn.1 (List.mem_map.mpr ⟨x, hx, ?_⟩)
      have := S_one_inj (show keyR x = keyR r by simpa using hxe)
      rw [this, hqr]
    · rw [if_neg (by simpa using e)]
      rcases List.mem_cons.mp hr with h | h
      · exact absurd (by rw [h]) e
      · exact ih hn.2 h
theorem sum_ones (hR : RowsOk R) {r : Row3} (hr : r ∈ R) (v : Row3 → Int) : sumS (ones R) r v = v r := by
  unfold sumS ones
  rw [List.filter_map]
  have : (fromR r ∘ fun r : Row3 => [r]) = fun q => decide (keyR q = keyR r) := rfl
  rw [this, filter_key hR.nd hr]
  simp [lsR]
noncomputable def sgI (i : Nat) : Int := 2 * ((i + 1 : Nat) : Int).fmod 2 - 1
theorem sum_mul (k : Int) (f : Chn → Int) : ∀ l : List Chn, (l.map fun c => f c * k).sum = (l.map f).sum * k
  | [] => by simp
  | c :: l => by rw [List.map_cons, List.sum_cons, sum_mul k f l, List.map_cons, List.sum_cons, Int.add_mul]
theorem sum_add (f g : Chn → Int) : ∀ l : List Chn, (l.map fun c => f c + g c).sum = (l.map f).sum + (l.map g).sum
  | [] => rfl
  | c :: l => by simp only [List.map_cons, List.sum_cons, sum_add f g l]; (first | lia | omega)
theorem level_sum (hR : RowsOk R) {φ : En → Int} (h : Lin φ) (i : Nat) (r : Row3) : (((Lv R i).filter (fromR r)).map fun c => φ (wholeE R (lsR c)) * sgn c).sum = (sumS (Lv R i) r (fun q => φ (ownE q.2.2)) + sumS (Lv R (i + 1)) r fun q => φ (ownE q.2.2)) * sgI i := by
  have e : (((Lv R i).filter (fromR r)).map fun c => φ (wholeE R (lsR c)) * sgn c) = ((Lv R i).filter (fromR r)).map fun c => (φ (ownE (lsR c).2.2) + ((deepRow R (lsR c)).map fun q => φ (ownE q.2.2)).sum) * sgI i := by
    refine List.map_congr_left fun c hc => ?_
    rw [whole_lin h]
    congr 1
    unfold sgn sgI
    rw [(Lv_good hR (List.mem_filter.mp hc).1).2]
  rw [e, sum_mul, sum_add]
  congr 2
  show _ = sumS ((Lv R i).flatMap (extC R)) r _
  rw [sumS_ext r _ _ fun c hc => (Lv_good hR hc).1.ne]
theorem bk_total (hR : RowsOk R) {φ : En → Int} (h : Lin φ) {r : Row3} (hr : r ∈ R) : φ (bkF R (chainsR R) r) = φ (ownE r.2.2) := by
  unfold bkF
  rw [bk_foldl h _ _ .zero, h.zero]
  show 0 + (((chainsR R).filter (fromR r)).map fun c => φ (wholeE R (lsR c)) * sgn c).sum = _
  unfold chainsR
  simp only [List.filter_append, List.map_append, List.sum_append, level_sum hR h]
  have e0 : sumS (Lv R 0) r (fun q => φ (ownE q.2.2)) = φ (ownE r.2.2) := sum_ones hR hr _
  have e5 : sumS (Lv R (4 + 1)) r (fun q => φ (ownE q.2.2)) = 0 := by rw [Lv5 hR]; rfl
  rw [e0, e5]
  have s0 : sgI 0 = 1 := by decide
  have s1 : sgI 1 = -1 := by decide
  have s2 : sgI 2 = 1 := by decide
  have s3 : sgI 3 = -1 := by decide
  have s4 : sgI 4 = 1 := by decide
  rw [s0, s1, s2, s3, s4]
  simp only [Nat.zero_add, Nat.reduceAdd]
  (first | lia | omega)
end
end Mine
end

noncomputable section -- V22
open PySem PyProof.Rows
set_option maxRecDepth 100000
namespace Mine

section
variable {R : List Row3}
theorem lookA_cons {α : Type} (p : Str × α) (l : List (Str × α)) (k : Str) : lookA (p :: l) k = if p.1 = k then some p.2 else lookA l k := by
  unfold lookA
  rw [List.find?_cons]
  by_cases h : p.1 = k
  · rw [if_pos h]; simp [h]
  · rw [if_neg h]; simp [h]
theorem lookA_none {α : Type} {l : List (Str × α)} {k : Str} (h : k ∉ l.map (·.1)) : lookA l k = none := by
  unfold lookA
  rw [Option.map_eq_none_iff, List.find?_eq_none]
  intro p hp e
  exact h (List.mem_map.mpr ⟨p, hp, by simpa using e⟩)
theorem lookA_mem {α : Type} {l : List (Str × α)} {p : Str × α} (hn : (l.map (·.1)).Nodup) (h : p ∈ l) : lookA l p.1 = some p.2 := by
  induction l with
  | nil => cases h
  | cons x l ih =>
    rw [List.map_cons, List.nodup_cons] at hn
    rw [lookA_cons]
    rcases List.mem_cons.mp h with rfl | h
    · rw [if_pos rfl]
    · rw [if_neg (fun e : x.1 = p.1 => hn.1 (by rw [e]; exact List.mem_map.mpr ⟨p, h, rfl⟩))]
      exact ih hn.2 h
theorem lookA_map1 {α : Type} (l : List (Str × α)) (k k' : Str) (v : α) : lookA (l.map fun kv => if kv.1 = k' then (kv.1, v) else kv) k = if k = k' then (lookA l k).map fun _ => v else lookA l k := by
  induction l with
  | nil => simp [lookA]
  | cons p l ih =>
    rw [List.map_cons, lookA_cons, lookA_cons, ih]
    by_cases h1 : p.1 = k'
    · rw [if_pos h1]
      by_cases h2 : p.1 = k
      · have h3 : k = k' := h2.symm.trans h1
        rw [if_pos h2, if_pos h3, if_pos h2]; rfl
      · rw [if_neg h2, if_neg h2]
    · rw [if_neg h1]
      by_cases h2 : p.1 = k
      · have h3 : ¬ k = k' := fun e => h1 (h2.trans e)
        rw [if_pos h2, if_neg h3, if_pos h2]
      · rw [if_neg h2, if_neg h2]
theorem lookA_putA {α : Type} (l : List (Str × α)) (k' k : Str) (v : α) : lookA (putA l k' v) k = if k = k' then some v else lookA l k := by
  unfold putA
  by_cases ha : (l.any fun kv => decide (kv.1 = k')) = true
  · rw [if_pos ha, lookA_map1]
    by_cases e : k = k'
    · rw [if_pos e, if_pos e]
      obtain ⟨p, hp, he⟩ := List.any_eq_true.mp ha
      have : lookA l k ≠ none := fun z => by
        unfold lookA at z
        rw [Option.map_eq_none_iff, List.find?_eq_none] at z
        exact z p hp (by rw [e]; exact he)
      cases hl : lookA l k with
      | none => exact absurd hl this
      | some x => rfl
    · rw [if_neg e, if_neg e]
  · rw [if_neg ha]
    have hk : k' ∉ l.map (·.1) := fun z => by
      obtain ⟨p, hp, e⟩ := List.mem_map.mp z
      exact ha (List.any_eq_true.mpr ⟨p, hp, by simpa using e⟩)
    by_cases e : k = k'
    · rw [if_pos e]
      have := lookA_none hk
      unfold lookA at this ⊢
      rw [Option.map_eq_none_iff] at this
      rw [List.find?_append, e, this]; simp
    · rw [if_neg e]
      unfold lookA
      rw [List.find?_append]
      have : [(k', v)].find? (fun kv => decide (kv.1 = k)) = none := by
        rw [List.find?_eq_none]
        intro p hp
        rw [List.mem_singleton.mp hp]
        simpa using fun z => e z.symm
      rw [this]; simp

noncomputable def valK (k : Str) (l : List (Str × Int)) : Int := (lookA l k).getD 0
theorem valK_step (k : Str) (acc : List (Str × Int)) (p : Str × Int) : valK k (stepI acc p) = valK k acc + if p.1 = k then p.2 else 0 := by
  unfold stepI valK
  cases h : lookA acc p.1 with
  | none =>
    show (lookA (putA acc p.1 p.2) k).getD 0 = _
    rw [lookA_putA]
    by_cases e : k = p.1
    · rw [if_pos e, if_pos e.symm, e, h]; simp
    · rw [if_neg e, if_neg fun z => e z.symm]; simp
  | some v =>
    show (lookA (putA acc p.1 (v + p.2)) k).getD 0 = _
    rw [lookA_putA]
    by_cases e : k = p.1
    · rw [if_pos e, if_pos e.symm, e, h]; simp
    · rw [if_neg e, if_neg fun z => e z.symm]; simp
theorem valK_cons (k : Str) (p : Str × Int) (l : List (Str × Int)) (h : p.1 ∉ l.map (·.1)) : valK k (p :: l) = (if p.1 = k then p.2 else 0) + valK k l := by
  unfold valK
  rw [lookA_cons]
  by_cases e : p.1 = k
  · rw [if_pos e, if_pos e, lookA_none (e ▸ h)]; simp
  · rw [if_neg e, if_neg e]; simp
theorem valK_merge (k : Str) : ∀ (s t : List (Str × Int)), (s.map (·.1)).Nodup → valK k (mergeI t s) = valK k t + valK k s
  | [], t, _ => by
    show valK k t = valK k t + valK k []
    simp [valK, lookA]
  | p :: s, t, h => by
    rw [List.map_cons, List.nodup_cons] at h
    show valK k (mergeI (stepI t p) s) = _
    rw [valK_merge k s _ h.2, valK_step, valK_cons k p s h.1]; (first | lia | omega)
theorem lin_a : Lin En.a := ⟨rfl, fun _ _ => rfl, fun t s _ _ => Int.add_comm _ _⟩
theorem lin_b : Lin En.b := ⟨rfl, fun _ _ => rfl, fun t s _ _ => Int.add_comm _ _⟩
theorem lin_c : Lin En.c := ⟨rfl, fun _ _ => rfl, fun t s _ _ => Int.add_comm _ _⟩
theorem lin_d : Lin En.d := ⟨rfl, fun _ _ => rfl, fun t s _ _ => Int.add_comm _ _⟩
theorem lin_k (k : Str) : Lin fun e => valK k e.cl := ⟨rfl, fun e s => by
  show valK k (e.cl.map fun p => (p.1, p.2 * s)) = _
  unfold valK
  induction e.cl with
  | nil => simp [lookA]
  | cons p l ih =>
    rw [List.map_cons, lookA_cons, lookA_cons]
    by_cases h : p.1 = k
    · rw [if_pos h, if_pos h]; rfl
    · rw [if_neg h, if_neg h]; exact ih, fun t s _ hs => valK_merge k s.cl t.cl hs.nd⟩

theorem stepI_mem (acc : List (Str × Int)) (p : Str × Int) (k : Str) : k ∈ (stepI acc p).map (·.1) ↔ k ∈ acc.map (·.1) ∨ k = p.1 := by
  have key : ∀ v, k ∈ (putA acc p.1 v).map (·.1) ↔ k ∈ acc.map (·.1) ∨ k = p.1 := fun v => by
    unfold putA
    by_cases ha : (acc.any fun kv => decide (kv.1 = p.1)) = true
    · rw [if_pos ha, List.map_map]
      have : (acc.map ((fun x => x.1) ∘ fun kv => if kv.1 = p.1 then (kv.1, v) else kv)) = acc.map (·.1) := List.map_congr_left fun q _ => by
        simp only [Function.comp]; split <;> rfl
      rw [this]
      constructor
      · exact .inl
      · rintro (h | h)
        · exact h
        · obtain ⟨q, hq, he⟩ := List.any_eq_true.mp ha
          exact List.mem_map.mpr ⟨q, hq, by rw [h]; simpa using he⟩
    · rw [if_neg ha, List.map_append, List.mem_append]
      simp
  unfold stepI
  split <;> exact key _
theorem mergeI_mem (k : Str) : ∀ (s t : List (Str × Int)), k ∈ (mergeI t s).map (·.1) ↔ k ∈ t.map (·.1) ∨ k ∈ s.map (·.1)
  | [], t => by simp [mergeI]
  | p :: s, t => by
    show k ∈ (mergeI (stepI t p) s).map (·.1) ↔ _
    rw [mergeI_mem k s, stepI_mem, List.map_cons, List.mem_cons, or_assoc]
end
end Mine
end

noncomputable section -- V23
open PySem PyProof.Rows
set_option maxRecDepth 100000
namespace Mine

section
variable {R : List Row3}
theorem fin_bk (hR : RowsOk R) : ∀ r ∈ R, (bkF R (chainsR R) r).a = (ownE r.2.2).a ∧ (bkF R (chainsR R) r).b = (ownE r.2.2).b ∧ (bkF R (chainsR R) r).c = (ownE r.2.2).c ∧ (bkF R (chainsR R) r).d = (ownE r.2.2).d := fun r hr =>
  ⟨bk_total hR lin_a hr, bk_total hR lin_b hr, bk_total hR lin_c hr, bk_total hR lin_d hr⟩
noncomputable def keysE (e : En) : List Str := e.cl.map (·.1)
theorem own_keys (n : Int) (k : Str) : k ∈ keysE (ownE n) ↔ k = uvw n := by simp [keysE, ownE]
theorem whole_fold_keys (k : Str) : ∀ (l : List Row3) (e : En), k ∈ keysE (l.foldl (fun e q => e.add (ownE q.2.2)) e) ↔ k ∈ keysE e ∨ ∃ q ∈ l, k = uvw q.2.2
  | [], e => by simp
  | q :: l, e => by
    rw [List.foldl_cons, whole_fold_keys k l]
    have : k ∈ keysE (e.add (ownE q.2.2)) ↔ k ∈ keysE e ∨ k = uvw q.2.2 := by
      have h := mergeI_mem k (ownE q.2.2).cl e.cl
      have h2 := own_keys q.2.2 k
      unfold keysE at h2 ⊢
      show k ∈ (mergeI e.cl (ownE q.2.2).cl).map (·.1) ↔ _
      rw [h, h2]
    rw [this]
    simp only [List.mem_cons, exists_eq_or_imp, or_assoc]
theorem whole_keys (k : Str) (r : Row3) : k ∈ keysE (wholeE R r) ↔ k = uvw r.2.2 ∨ ∃ q ∈ deepRow R r, k = uvw q.2.2 := by
  unfold wholeE
  rw [whole_fold_keys, own_keys]
theorem bk_fold_keys (k : Str) : ∀ (l : List Chn) (e : En), k ∈ keysE (l.foldl (fun e c => e.add ((wholeE R (lsR c)).neg (sgn c))) e) ↔ k ∈ keysE e ∨ ∃ c ∈ l, k ∈ keysE (wholeE R (lsR c))
  | [], e => by simp
  | c :: l, e => by
    rw [List.foldl_cons, bk_fold_keys k l]
    have : k ∈ keysE (e.add ((wholeE R (lsR c)).neg (sgn c))) ↔ k ∈ keysE e ∨ k ∈ keysE (wholeE R (lsR c)) := by
      have h := mergeI_mem k ((wholeE R (lsR c)).neg (sgn c)).cl e.cl
      unfold keysE
      show k ∈ (mergeI e.cl _).map (·.1) ↔ _
      rw [h]
      have : ((wholeE R (lsR c)).neg (sgn c)).cl.map (·.1) = (wholeE R (lsR c)).cl.map (·.1) := by unfold En.neg; rw [List.map_map]; rfl
      rw [this]
    rw [this]
    simp only [List.mem_cons, exists_eq_or_imp, or_assoc]
theorem ones_in {r : Row3} (hr : r ∈ R) : [r] ∈ chainsR R := by
  unfold chainsR
  exact List.mem_append.mpr (.inl (List.mem_map.mpr ⟨r, hr, rfl⟩))
theorem bk_keys (hR : RowsOk R) {r : Row3} (hr : r ∈ R) (k : Str) : k ∈ keysE (bkF R (chainsR R) r) ↔ k ∈ keysE (wholeE R r) := by
  unfold bkF
  rw [bk_fold_keys]
  constructor
  · rintro (h | ⟨c, hc, h⟩)
    · simp [keysE, En.zero] at h
    · obtain ⟨hc1, hc2⟩ := List.mem_filter.mp hc
      have g := chains_good hR hc1
      have e : hdR c = r := keyR_inj hR.nd (g.mem _ (hdR_mem g.ne)) hr (by simpa using hc2)
      have hls := g.mem _ (lsR_mem g.ne)
      rcases g.hd_le with e' | e'
      · rw [← e, e']; exact h
      · rw [e] at e'
        rw [whole_keys] at h ⊢
        rcases h with h | ⟨q, hq, h⟩
        · exact .inr ⟨lsR c, mem_deep.mpr ⟨hls, e'⟩, h⟩
        · obtain ⟨h1, h2⟩ := mem_deep.mp hq
          exact .inr ⟨q, mem_deep.mpr ⟨h1, hR.trans hr hls h1 e' h2⟩, h⟩
  · intro h
    exact .inr ⟨[r], List.mem_filter.mpr ⟨ones_in hr, by simp [hdR]⟩, h⟩
theorem fin_cl (hR : RowsOk R) : ∀ r ∈ R, (bkF R (chainsR R) r).cl.length = (wholeE R r).cl.length ∧ ∀ p ∈ (bkF R (chainsR R) r).cl, p.1 ∈ (wholeE R r).cl.map (·.1) ∧ p.2 = (lookA (ownE r.2.2).cl p.1).getD 0 := fun r hr => by
  have ob := bkF_ok R (chainsR R) r
  have ow := wholeE_en (R := R) r
  refine ⟨?_, fun p hp => ⟨(bk_keys hR hr p.1).mp (List.mem_map.mpr ⟨p, hp, rfl⟩), ?_⟩⟩
  · have l1 := nodup_len (m := keysE (wholeE R r)) ob.nd fun x hx => (bk_keys hR hr x).mp hx
    have l2 := nodup_len (m := keysE (bkF R (chainsR R) r)) ow.nd fun x hx => (bk_keys hR hr x).mpr hx
    unfold keysE at l1 l2
    simp only [List.length_map] at l1 l2
    (first | lia | omega)
  · have h := bk_total hR (lin_k p.1) hr
    have h2 := lookA_mem ob.nd hp
    unfold valK at h
    simp only [h2] at h
    exact h
end
end Mine
end

noncomputable section -- V24
open PySem PyProof.Rows
set_option maxRecDepth 100000
namespace Mine

section
variable {R : List Row3}
noncomputable def keyP (r : Row3) : Int × Str := ((colsL r.2.1).getD 0 0, keyR r)
theorem ksP_R (R : List Row3) : ksP (pairR R) = R.map keyP := by unfold ksP pairR; rw [List.map_map]; rfl
theorem keyLt_irr (x : Int × Str) : keyLt x x = false := by
  unfold keyLt; rw [if_pos rfl]; exact decide_eq_false (List.lt_irrefl _)
theorem keyLt_iff (x y : Int × Str) : keyLt x y = true ↔ x.1 < y.1 ∨ (x.1 = y.1 ∧ x.2.cps.toList < y.2.cps.toList) := by
  unfold keyLt
  by_cases h : x.1 = y.1
  · rw [if_pos h, decide_eq_true_eq]
    constructor
    · exact fun z => .inr ⟨h, z⟩
    · rintro (z | z)
      · (first | lia | omega)
      · exact z.2
  · rw [if_neg h, decide_eq_true_eq]
    constructor
    · exact .inl
    · rintro (z | z)
      · exact z
      · exact absurd z.1 h
theorem keyLt_trans {x y z : Int × Str} (h1 : keyLt x y = true) (h2 : keyLt y z = true) : keyLt x z = true := by
  rw [keyLt_iff] at *
  rcases h1 with h1 | ⟨h1, h1'⟩ <;> rcases h2 with h2 | ⟨h2, h2'⟩
  · exact .inl (by (first | lia | omega))
  · exact .inl (by (first | lia | omega))
  · exact .inl (by (first | lia | omega))
  · exact .inr ⟨by (first | lia | omega), List.lt_trans h1' h2'⟩
theorem keyP_total {r q : Row3} (h : keyR r ≠ keyR q) : keyLt (keyP r) (keyP q) = true ∨ keyLt (keyP q) (keyP r) = true := by
  rw [keyLt_iff, keyLt_iff]
  have hne : r.1 ≠ q.1 := fun e => h (by unfold keyR; rw [e])
  have e : ∀ x : Row3, (keyP x).2.cps.toList = [x.1] := fun x => by show (S [x.1]).cps.toList = _; rw [S_cps]
  rw [e, e]
  by_cases h1 : (keyP r).1 < (keyP q).1
  · exact .inl (.inl h1)
  by_cases h2 : (keyP q).1 < (keyP r).1
  · exact .inr (.inl h2)
  have h3 : (keyP r).1 = (keyP q).1 := by (first | lia | omega)
  rcases Nat.lt_or_gt_of_ne hne with h4 | h4
  · exact .inl (.inr ⟨h3, by rw [List.cons_lt_cons_iff]; exact .inl h4⟩)
  · exact .inr (.inr ⟨h3.symm, by rw [List.cons_lt_cons_iff]; exact .inl h4⟩)
theorem RowsOk.rnd (h : RowsOk R) : R.Nodup := by
  have : R.Pairwise fun a b => a ≠ b := h.asc.imp fun {a b} hlt (e : a = b) => by rw [e] at hlt; exact Nat.lt_irrefl _ hlt
  exact this
noncomputable def rank (R : List Row3) (r : Row3) : Nat := (R.filter fun q => keyLt (keyP q) (keyP r)).length
theorem rank_lt (hR : RowsOk R) {r q : Row3} (hr : r ∈ R) (h : keyLt (keyP r) (keyP q) = true) : rank R r < rank R q := by
  unfold rank
  have : (r :: R.filter fun x => keyLt (keyP x) (keyP r)).length ≤ (R.filter fun x => keyLt (keyP x) (keyP q)).length := by
    refine nodup_len ?_ fun x hx => ?_
    · rw [List.nodup_cons]
      refine ⟨fun z => ?_, hR.rnd.filter _⟩
      have := (List.mem_filter.mp z).2
      rw [keyLt_irr] at this; cases this
    · rcases List.mem_cons.mp hx with rfl | hx
      · exact List.mem_filter.mpr ⟨hr, h⟩
      · obtain ⟨h1, h2⟩ := List.mem_filter.mp hx
        exact List.mem_filter.mpr ⟨h1, keyLt_trans h2 h⟩
  exact Nat.lt_of_succ_le this
theorem rank_iff (hR : RowsOk R) {r q : Row3} (hr : r ∈ R) (hq : q ∈ R) : decide (rank R r < rank R q) = keyLt (keyP r) (keyP q) := by
  by_cases e : r = q
  · subst e; rw [keyLt_irr]; simp
  have hk : keyR r ≠ keyR q := fun z => e (keyR_inj hR.nd hr hq z)
  rcases keyP_total hk with h | h
  · rw [h]; exact decide_eq_true (rank_lt hR hr h)
  · have h2 := rank_lt hR hq h
    have : keyLt (keyP r) (keyP q) = false := by
      cases hh : keyLt (keyP r) (keyP q) with
      | false => rfl
      | true => have := rank_lt hR hr hh; (first | lia | omega)
    rw [this]; exact decide_eq_false (by (first | lia | omega))
theorem rank_bound (hR : RowsOk R) {r : Row3} (hr : r ∈ R) : rank R r < R.length := by
  unfold rank
  have : (r :: R.filter fun x => keyLt (keyP x) (keyP r)).length ≤ R.length := by
    refine nodup_len ?_ fun x hx => ?_
    · rw [List.nodup_cons]
      refine ⟨fun z => ?_, hR.rnd.filter _⟩
      have := (List.mem_filter.mp z).2
      rw [keyLt_irr] at this; cases this
    · rcases List.mem_cons.mp hx with rfl | hx
      · exact hr
      · exact (List.mem_filter.mp hx).1
  exact Nat.lt_of_succ_le this
theorem kasRun_congr {α : Type} {n : Nat} {lt lt' : Nat → Nat → Bool} (h : ∀ i j, i < n → j < n → lt i j = lt' i j) : ∀ {t : PySem.W.KasT α}, kasAll n t = true → kasRun lt t = kasRun lt' t
  | .ret _, _ => rfl
  | .ask i j k, ha => by
    unfold kasAll at ha
    simp only [Bool.and_eq_true, decide_eq_true_eq] at ha
    show kasRun lt (k (lt i j)) = kasRun lt' (k (lt' i j))
    rw [← h i j ha.1.1.1 ha.1.1.2]
    cases lt i j with
    | true => exact kasRun_congr h ha.1.2
    | false => exact kasRun_congr h ha.2
noncomputable def sortedB (r : List Nat) : List Nat → Bool
  | [] => true
  | x :: l => l.all (fun y => decide (r.getD x 0 ≤ r.getD y 0)) && sortedB r l
noncomputable def ranksB (n : Nat) (r : List Nat) : Bool :=
  let p := (kasRun (fun i j => decide (r.getD i 0 < r.getD j 0)) (PySem.W.kas_sort n)).toList
  p.length == n && p.all (fun i => decide (i < n)) && nodupB p && sortedB r p
theorem ranksB4 : (allRanks 4 4).all (fun r => !nodupB r || ranksB 4 r) = true := by decide +kernel
theorem ranksB5 : (allRanks 5 5).all (fun r => !nodupB r || ranksB 5 r) = true := by decide +kernel
theorem nodupB_iff : ∀ {l : List Nat}, nodupB l = true → l.Nodup
  | [], _ => List.nodup_nil
  | x :: l, h => by
    unfold nodupB at h
    rw [Bool.and_eq_true, Bool.not_eq_true', List.contains_eq_mem] at h
    rw [List.nodup_cons]
    exact ⟨by simpa using h.1, nodupB_iff h.2⟩
theorem sortedB_iff {r : List Nat} : ∀ {l : List Nat}, sortedB r l = true → l.Pairwise fun x y => r.getD x 0 ≤ r.getD y 0
  | [], _ => .nil
  | x :: l, h => by
    unfold sortedB at h
    rw [Bool.and_eq_true, List.all_eq_true] at h
    exact .cons (fun y hy => by simpa using h.1 y hy) (sortedB_iff h.2)
theorem kasAllN {n : Nat} (hn : n = 4 ∨ n = 5) : kasAll n (PySem.W.kas_sort n) = true := by
  rcases hn with rfl | rfl
  · exact kasAll4
  · exact kasAll5
theorem ranksB_of {n : Nat} (hn : n = 4 ∨ n = 5) {r : List Nat} (hl : r.length = n) (hx : ∀ x ∈ r, x < n) (hd : r.Nodup) : ranksB n r = true := by
  rcases hn with rfl | rfl
  · have := List.all_eq_true.mp ranksB4 r (mem_allRanks hl hx)
    rw [nodupB_of hd] at this; simpa using this
  · have := List.all_eq_true.mp ranksB5 r (mem_allRanks hl hx)
    rw [nodupB_of hd] at this; simpa using this
end
end Mine
end

noncomputable section -- V25
open PySem PyProof.Rows
set_option maxRecDepth 100000
namespace Mine

section
variable {R : List Row3}
noncomputable def permR (R : List Row3) : List Nat := (kasRun (fun i j => keyLt ((ksP (pairR R)).getD i (0, ⟨#[]⟩)) ((ksP (pairR R)).getD j (0, ⟨#[]⟩))) (PySem.W.kas_sort R.length)).toList
noncomputable def rowsS (R : List Row3) : List Row3 := (permR R).map fun i => R.getD i (0, [], 0)
theorem perm_facts (hR : RowsOk R) : (permR R).length = R.length ∧ (∀ i ∈ permR R, i < R.length) ∧ (permR R).Nodup ∧ (permR R).Pairwise fun x y => rank R (R.getD x (0, [], 0)) ≤ rank R (R.getD y (0, [], 0)) := by
  have hn := hR.len
  have hnd : (R.map (rank R)).Nodup := by
    have : (R.map (rank R)).Pairwise fun a b => a ≠ b := by
      rw [List.pairwise_map]
      refine List.Pairwise.imp_of_mem (R := fun a b => a ≠ b) (fun {a b} ha hb h e => ?_) hR.rnd
      have hk : keyR a ≠ keyR b := fun z => h (keyR_inj hR.nd ha hb z)
      rcases keyP_total hk with h | h
      · have := rank_lt hR ha h; (first | lia | omega)
      · have := rank_lt hR hb h; (first | lia | omega)
    exact this
  have hb := ranksB_of hn (r := R.map (rank R)) (by rw [List.length_map]) (fun x hx => by
    obtain ⟨r, hr, rfl⟩ := List.mem_map.mp hx
    exact rank_bound hR hr) hnd
  have e : kasRun (fun i j => decide ((R.map (rank R)).getD i 0 < (R.map (rank R)).getD j 0)) (PySem.W.kas_sort R.length) = kasRun (fun i j => keyLt ((ksP (pairR R)).getD i (0, ⟨#[]⟩)) ((ksP (pairR R)).getD j (0, ⟨#[]⟩))) (PySem.W.kas_sort R.length) := by
    refine kasRun_congr (n := R.length) (fun i j hi hj => ?_) (kasAllN hn)
    have g : ∀ k (hk : k < R.length), (R.map (rank R)).getD k 0 = rank R R[k] ∧ (ksP (pairR R)).getD k (0, ⟨#[]⟩) = keyP R[k] := fun k hk => by
      rw [ksP_R]
      constructor <;> · rw [List.getD_eq_getElem?_getD, List.getElem?_map, List.getElem?_eq_getElem hk]; rfl
    rw [(g i hi).1, (g j hj).1, (g i hi).2, (g j hj).2]
    exact rank_iff hR (List.getElem_mem hi) (List.getElem_mem hj)
  unfold ranksB at hb
  rw [e] at hb
  simp only [Bool.and_eq_true] at hb
  obtain ⟨⟨⟨h1, h2⟩, h3⟩, h4⟩ := hb
  have hlt : ∀ i ∈ permR R, i < R.length := fun i hi => by
    have := List.all_eq_true.mp h2 i hi
    simpa using this
  refine ⟨eq_of_beq h1, hlt, nodupB_iff h3, ?_⟩
  refine List.Pairwise.imp_of_mem (fun {x y} hx hy h => ?_) (sortedB_iff h4)
  have g : ∀ k, k < R.length → (R.map (rank R)).getD k 0 = rank R (R.getD k (0, [], 0)) := fun k hk => by
    rw [List.getD_eq_getElem?_getD, List.getD_eq_getElem?_getD, List.getElem?_map, List.getElem?_eq_getElem hk]; rfl
  rw [g x (hlt x hx), g y (hlt y hy)] at h
  exact h
theorem getD_in {i : Nat} (hi : i < R.length) : R.getD i (0, [], 0) ∈ R ∧ R[i]? = some (R.getD i (0, [], 0)) := by
  have e : R.getD i (0, [], 0) = R[i] := by rw [List.getD_eq_getElem?_getD, List.getElem?_eq_getElem hi]; rfl
  rw [e]
  exact ⟨List.getElem_mem hi, List.getElem?_eq_getElem hi⟩
theorem rowsS_mem (hR : RowsOk R) : ∀ r ∈ rowsS R, r ∈ R := fun r hr => by
  obtain ⟨i, hi, rfl⟩ := List.mem_map.mp hr
  exact (getD_in ((perm_facts hR).2.1 i hi)).1
theorem rowsS_nodup (hR : RowsOk R) : (rowsS R).Nodup := by
  obtain ⟨h1, h2, h3, h4⟩ := perm_facts hR
  have : (rowsS R).Pairwise fun a b => a ≠ b := by
    unfold rowsS
    rw [List.pairwise_map]
    refine List.Pairwise.imp_of_mem (R := fun a b => a ≠ b) (fun {a b} ha hb h e => ?_) h3
    have ea := (getD_in (h2 a ha)).2
    have eb := (getD_in (h2 b hb)).2
    rw [← e] at eb
    have hla : a < R.length := h2 a ha
    exact h ((List.getElem?_inj hla hR.rnd).mp (ea.trans eb.symm))
  exact this
theorem rowsS_all (hR : RowsOk R) : ∀ r ∈ R, r ∈ rowsS R := fun r hr => by
  by_cases h : r ∈ rowsS R
  · exact h
  · have := nodup_len (l := r :: rowsS R) (m := R) (List.nodup_cons.mpr ⟨h, rowsS_nodup hR⟩) fun x hx => by
      rcases List.mem_cons.mp hx with rfl | hx
      · exact hr
      · exact rowsS_mem hR x hx
    have l : (rowsS R).length = R.length := by unfold rowsS; rw [List.length_map]; exact (perm_facts hR).1
    rw [List.length_cons] at this; (first | lia | omega)
theorem rowsS_asc (hR : RowsOk R) : (rowsS R).Pairwise fun a b => rank R a ≤ rank R b := by
  unfold rowsS
  rw [List.pairwise_map]
  exact (perm_facts hR).2.2.2
theorem risL_rows (hR : RowsOk R) : risL (pairR R) = (rowsS R).map keyR := by
  unfold risL srt rowsS
  have hl : (ksP (pairR R)).length = R.length := by rw [ksP_R, List.length_map]
  rw [hl, List.map_map, List.map_map]
  refine List.map_congr_left fun i hi => ?_
  have hi' := (perm_facts hR).2.1 i hi
  show ((ksP (pairR R)).getD i (0, ⟨#[]⟩)).2 = keyR (R.getD i (0, [], 0))
  rw [ksP_R, List.getD_eq_getElem?_getD, List.getElem?_map, (getD_in hi').2]; rfl
theorem fin_due (hR : RowsOk R) : specTables [.str (S (nmR R)), .lst (R.map fun r => .str (S r.2.1))] (.dct (tabD (pairR R))) := by
  have hpl : (pairR R).length = R.length := by unfold pairR; rw [List.length_map]
  have hnm : (pairR R).map (·.1) = nmR R := by unfold pairR nmR; rw [List.map_map]; rfl
  obtain ⟨h1, h2, h3, h4⟩ := perm_facts hR
  refine ⟨pairR R, ?_, by rw [hnm]; exact hR.nd, by rw [hpl]; exact hR.len, ?_, ?_, ?_, ?_, rfl⟩
  · rw [hnm]
    congr 2
    unfold pairR; rw [List.map_map]; rfl
  · rw [hpl]; exact kasAll_in (kasAllN hR.len)
  · rw [hpl]; exact h2
  · rw [risL_rows hR, List.length_map]
    unfold rowsS
    rw [List.length_map, h1]
    have := hR.len; (first | lia | omega)
  · intro x hx
    rw [risL_rows hR] at hx
    obtain ⟨r, hr, rfl⟩ := List.mem_map.mp hx
    exact ⟨(r.1, r.2.1), List.mem_map.mpr ⟨r, rowsS_mem hR r hr, rfl⟩, rfl⟩
end
end Mine
end

noncomputable section -- V26
open PySem PyProof.Rows
set_option maxRecDepth 100000
namespace Mine

section
variable {R : List Row3}
noncomputable def dl (q x : Row3) : Int := if keyR x = keyR q then 1 else 0
theorem dl_comm (q x : Row3) : dl q x = dl x q := by
  unfold dl
  by_cases h : keyR x = keyR q
  · rw [if_pos h, if_pos h.symm]
  · rw [if_neg h, if_neg fun z => h z.symm]
noncomputable def nV (R : List Row3) (r : Row3) (v : Row3 → Int) : Int := sumS (Lv R 0) r v + sumS (Lv R 1) r v + sumS (Lv R 2) r v + sumS (Lv R 3) r v + sumS (Lv R 4) r v
noncomputable def mV (R : List Row3) (r : Row3) (v : Row3 → Int) : Int := sumS (Lv R 0) r v - sumS (Lv R 1) r v + sumS (Lv R 2) r v - sumS (Lv R 3) r v + sumS (Lv R 4) r v
noncomputable def upV (R : List Row3) (v : Row3 → Int) (q : Row3) : Int := ((deepRow R q).map v).sum
theorem sumS_up (hR : RowsOk R) (i : Nat) (r : Row3) (v : Row3 → Int) : sumS (Lv R (i + 1)) r v = sumS (Lv R i) r (upV R v) := sumS_ext r v _ fun c hc => (Lv_good hR hc).1.ne
theorem up_facts (hR : RowsOk R) {r : Row3} (hr : r ∈ R) (v : Row3 → Int) : sumS (Lv R 0) r v = v r ∧ sumS (Lv R 1) r v = sumS (Lv R 0) r (upV R v) ∧ sumS (Lv R 2) r v = sumS (Lv R 1) r (upV R v) ∧ sumS (Lv R 3) r v = sumS (Lv R 2) r (upV R v) ∧ sumS (Lv R 4) r v = sumS (Lv R 3) r (upV R v) ∧ sumS (Lv R 4) r (upV R v) = 0 :=
  ⟨sum_ones hR hr v, sumS_up hR 0 r v, sumS_up hR 1 r v, sumS_up hR 2 r v, sumS_up hR 3 r v, by rw [← sumS_up hR 4, Lv5 hR]; rfl⟩
theorem nV_rec (hR : RowsOk R) {r : Row3} (hr : r ∈ R) (v : Row3 → Int) : nV R r v = v r + nV R r (upV R v) := by
  obtain ⟨e0, e1, e2, e3, e4, e5⟩ := up_facts hR hr v
  unfold nV
  (first | lia | omega)
theorem mV_rec (hR : RowsOk R) {r : Row3} (hr : r ∈ R) (v : Row3 → Int) : mV R r v = v r - mV R r (upV R v) := by
  obtain ⟨e0, e1, e2, e3, e4, e5⟩ := up_facts hR hr v
  unfold mV
  (first | lia | omega)
theorem sumS_congr {l : List Chn} {r : Row3} {v v' : Row3 → Int} (h : ∀ c ∈ l, fromR r c = true → v (lsR c) = v' (lsR c)) : sumS l r v = sumS l r v' := by
  unfold sumS; congr 1
  exact List.map_congr_left fun c hc => h c (List.mem_filter.mp hc).1 (List.mem_filter.mp hc).2
theorem sum_nil : ∀ l : List Chn, (l.map fun _ => (0 : Int)).sum = 0
  | [] => rfl
  | c :: l => by rw [List.map_cons, List.sum_cons, sum_nil l]; rfl
theorem sumS_lin (l : List Chn) (r : Row3) (f : Row3 → Row3 → Int) : ∀ L : List Row3, sumS l r (fun x => (L.map fun q => f q x).sum) = (L.map fun q => sumS l r (f q)).sum
  | [] => sum_nil _
  | q :: L => by
    have ih := sumS_lin l r f L
    rw [List.map_cons, List.sum_cons, ← ih]
    have : (fun x => ((q :: L).map fun q => f q x).sum) = fun x => f q x + (L.map fun q => f q x).sum := by
      funext x; rw [List.map_cons, List.sum_cons]
    rw [this]
    exact sum_add (fun c => f q (lsR c)) (fun c => (L.map fun q => f q (lsR c)).sum) _
theorem from_ls (hR : RowsOk R) {r : Row3} (hr : r ∈ R) {c : Chn} (g : GoodC R c) (h : fromR r c = true) : lsR c ∈ R ∧ (lsR c = r ∨ ltR r (lsR c) = true) := by
  have e : hdR c = r := keyR_inj hR.nd (g.mem _ (hdR_mem g.ne)) hr (by simpa [fromR] using h)
  refine ⟨g.mem _ (lsR_mem g.ne), ?_⟩
  rcases g.hd_le with e' | e'
  · exact .inl (by rw [← e', e])
  · exact .inr (by rw [e] at e'; exact e')
theorem dl_sum (hR : RowsOk R) {x : Row3} (hx : x ∈ R) : ∀ {L : List Row3}, (∀ q ∈ L, q ∈ R) → L.Nodup → (L.map fun q => dl q x).sum = if x ∈ L then 1 else 0
  | [], _, _ => by simp
  | q :: L, h, hn => by
    rw [List.nodup_cons] at hn
    rw [List.map_cons, List.sum_cons, dl_sum hR hx (fun y hy => h y (List.mem_cons_of_mem _ hy)) hn.2]
    unfold dl
    by_cases e : keyR x = keyR q
    · have e' := keyR_inj hR.nd hx (h q List.mem_cons_self) e
      rw [e', if_pos rfl, if_neg hn.1, if_pos List.mem_cons_self]; rfl
    · have hne : ¬ x = q := fun z => e (by rw [z])
      rw [if_neg e]
      by_cases hxl : x ∈ L
      · rw [if_pos hxl, if_pos (List.mem_cons_of_mem _ hxl)]; rfl
      · rw [if_neg hxl, if_neg fun z => (List.mem_cons.mp z).elim hne hxl]; rfl
theorem step_sum (hR : RowsOk R) {r h : Row3} (hr : r ∈ R) (hh : h ∈ R) {L : List Row3} (hL : ∀ q ∈ L, q ∈ R) (hn : L.Nodup) (hm : ∀ x ∈ R, (x = r ∨ ltR r x = true) → ltR x h = true → x ∈ L) (hm2 : ∀ x ∈ L, ltR x h = true) (i : Nat) : sumS (Lv R i) r (upV R (dl h)) = (L.map fun q => sumS (Lv R i) r (dl q)).sum := by
  rw [← sumS_lin (Lv R i) r dl L]
  refine sumS_congr fun c hc hf => ?_
  obtain ⟨h1, h2⟩ := from_ls hR hr (Lv_good hR hc).1 hf
  rw [dl_sum hR h1 hL hn]
  unfold upV
  have e : (deepRow R (lsR c)).map (dl h) = (deepRow R (lsR c)).map fun x => dl x h := List.map_congr_left fun x _ => dl_comm h x
  rw [e, dl_sum hR hh (fun q hq => (mem_deep.mp hq).1) (hR.rnd.filter _)]
  by_cases hx : lsR c ∈ L
  · rw [if_pos hx, if_pos (mem_deep.mpr ⟨hh, hm2 _ hx⟩)]
  · rw [if_neg hx, if_neg fun z => hx (hm _ h1 h2 (mem_deep.mp z).2)]
theorem sum5 (a b c d e : Row3 → Int) : ∀ L : List Row3, (L.map fun q => a q + b q + c q + d q + e q).sum = (L.map a).sum + (L.map b).sum + (L.map c).sum + (L.map d).sum + (L.map e).sum
  | [] => rfl
  | q :: L => by simp only [List.map_cons, List.sum_cons, sum5 a b c d e L]; (first | lia | omega)
theorem sum5s (a b c d e : Row3 → Int) : ∀ L : List Row3, (L.map fun q => a q - b q + c q - d q + e q).sum = (L.map a).sum - (L.map b).sum + (L.map c).sum - (L.map d).sum + (L.map e).sum
  | [] => rfl
  | q :: L => by simp only [List.map_cons, List.sum_cons, sum5s a b c d e L]; (first | lia | omega)
theorem nV_step (hR : RowsOk R) {r h : Row3} (hr : r ∈ R) (hh : h ∈ R) {L : List Row3} (hL : ∀ q ∈ L, q ∈ R) (hn : L.Nodup) (hm : ∀ x ∈ R, (x = r ∨ ltR r x = true) → ltR x h = true → x ∈ L) (hm2 : ∀ x ∈ L, ltR x h = true) : nV R r (dl h) = dl h r + (L.map fun q => nV R r (dl q)).sum ∧ mV R r (dl h) = dl h r - (L.map fun q => mV R r (dl q)).sum := by
  have st := step_sum hR hr hh hL hn hm hm2
  constructor
  · rw [nV_rec hR hr]
    unfold nV
    rw [st, st, st, st, st, sum5]
  · rw [mV_rec hR hr]
    unfold mV
    rw [st, st, st, st, st, sum5s]
theorem dl_self (r : Row3) : dl r r = 1 := by unfold dl; rw [if_pos rfl]
theorem nV_self (hR : RowsOk R) {r : Row3} (hr : r ∈ R) : nV R r (dl r) = 1 ∧ mV R r (dl r) = 1 := by
  obtain ⟨a, b⟩ := nV_step hR hr hr (L := []) (fun _ h => by cases h) List.nodup_nil (fun x hx h1 h2 => by
    exfalso
    rcases h1 with rfl | h1
    · rw [hR.irr hx] at h2; cases h2
    · exact asym hR hr hx h1 h2) (fun _ h => by cases h)
  rw [dl_self] at a b
  exact ⟨a, b⟩

noncomputable def entD (R : List Row3) (r q : Row3) : Str × Int × Int := (keyR q, nV R r (dl q), mV R r (dl q))
theorem colC_row (hR : RowsOk R) {r : Row3} (hr : r ∈ R) : colC (pairR R) (keyR r) = colsL r.2.1 := by
  have hnm : (pairR R).map (·.1) = nmR R := by unfold pairR nmR; rw [List.map_map]; rfl
  exact colC_of (P := pairR R) (by rw [hnm]; exact hR.nd) (p := (r.1, r.2.1)) (List.mem_map.mpr ⟨r, hr, rfl⟩)
theorem lt_keyP (hR : RowsOk R) {x h : Row3} (hx : x ∈ R) (hh : h ∈ R) (hlt : ltR x h = true) : keyLt (keyP x) (keyP h) = true := by
  rw [hR.lt hx hh] at hlt
  unfold ltC at hlt
  rw [List.all_eq_true] at hlt
  have := hlt 0 (by simp)
  rw [decide_eq_true_eq] at this
  rw [keyLt_iff]
  exact .inl this
theorem under_ent (hR : RowsOk R) {r h : Row3} (hh : h ∈ R) {L : List Row3} (hL : ∀ q ∈ L, q ∈ R) : underL (colC (pairR R)) (L.map (entD R r)) (keyR h) = (L.filter fun q => ltR q h).map fun q => (nV R r (dl q), mV R r (dl q)) := by
  unfold underL
  rw [List.filter_map, List.map_map]
  have e : L.filter ((fun p : Str × Int × Int => ltC (colC (pairR R) p.1) (colC (pairR R) (keyR h))) ∘ entD R r) = L.filter fun q => ltR q h := by
    refine List.filter_congr fun q hq => ?_
    show ltC (colC (pairR R) (keyR q)) (colC (pairR R) (keyR h)) = ltR q h
    rw [colC_row hR (hL q hq), colC_row hR hh, hR.lt (hL q hq) hh]
  rw [e]; rfl
theorem due_pre (hR : RowsOk R) {r : Row3} (hr : r ∈ R) : ∀ (Q P : List Row3), P ++ Q = rowsS R → (Q.map keyR).foldl (dueStep (colC (pairR R))) ((r :: P.filter (ltR r)).map (entD R r)) = (r :: (rowsS R).filter (ltR r)).map (entD R r)
  | [], P, e => by rw [List.append_nil] at e; rw [e]; rfl
  | h :: Q, P, e => by
    rw [show (h :: Q).map keyR = keyR h :: Q.map keyR from rfl, List.foldl_cons]
    have hin : ∀ x, x ∈ P ∨ x = h ∨ x ∈ Q → x ∈ R := fun x hx => rowsS_mem hR x (by
      rw [← e]
      rcases hx with hx | hx | hx
      · exact List.mem_append.mpr (.inl hx)
      · exact List.mem_append.mpr (.inr (by rw [hx]; exact List.mem_cons_self))
      · exact List.mem_append.mpr (.inr (List.mem_cons_of_mem _ hx)))
    have hh : h ∈ R := hin h (.inr (.inl rfl))
    have hnd := rowsS_nodup hR
    have has := rowsS_asc hR
    rw [← e] at hnd has
    obtain ⟨np, nq, npq⟩ := List.nodup_append.mp hnd
    have hQ := (List.pairwise_cons.mp (List.pairwise_append.mp has).2.1).1
    have hL : ∀ q ∈ r :: P.filter (ltR r), q ∈ R := fun q hq => by
      rcases List.mem_cons.mp hq with rfl | hq
      · exact hr
      · exact hin q (.inl (List.mem_filter.mp hq).1)
    have hge : ∀ q ∈ r :: P.filter (ltR r), q = r ∨ ltR r q = true := fun q hq => by
      rcases List.mem_cons.mp hq with e' | hq
      · exact .inl e'
      · exact .inr (List.mem_filter.mp hq).2
    have hn : (r :: P.filter (ltR r)).Nodup := by
      rw [List.nodup_cons]
      refine ⟨fun z => ?_, np.filter _⟩
      have := (List.mem_filter.mp z).2
      rw [hR.irr hr] at this; cases this
    have key : dueStep (colC (pairR R)) ((r :: P.filter (ltR r)).map (entD R r)) (keyR h) = (r :: (P ++ [h]).filter (ltR r)).map (entD R r) := by
      unfold dueStep
      rw [under_ent hR hh hL]
      by_cases hrh : ltR r h = true
      · have hne : ¬ h = r := fun z => by rw [z, hR.irr hr] at hrh; cases hrh
        have hrL : r ∈ (r :: P.filter (ltR r)).filter fun q => ltR q h := List.mem_filter.mpr ⟨List.mem_cons_self, hrh⟩
        have hemp : ((((r :: P.filter (ltR r)).filter fun q => ltR q h).map fun q => (nV R r (dl q), mV R r (dl q))).isEmpty) = false := by
          rw [Bool.eq_false_iff, Ne, List.isEmpty_iff, List.map_eq_nil_iff]
          intro z; rw [z] at hrL; cases hrL
        rw [hemp]
        obtain ⟨a, b⟩ := nV_step hR hr hh (L := (r :: P.filter (ltR r)).filter fun q => ltR q h) (fun q hq => hL q (List.mem_filter.mp hq).1) (hn.filter _) (fun x hx h1 h2 => by
          refine List.mem_filter.mpr ⟨?_, h2⟩
          rcases h1 with rfl | h1
          · exact List.mem_cons_self
          · refine List.mem_cons_of_mem _ (List.mem_filter.mpr ⟨?_, h1⟩)
            have hxs := rowsS_all hR x hx
            rw [← e] at hxs
            rcases List.mem_append.mp hxs with hxs | hxs
            · exact hxs
            · exfalso
              rcases List.mem_cons.mp hxs with rfl | hxs
              · rw [hR.irr hx] at h2; cases h2
              · have := hQ x hxs
                have := rank_lt hR hx (lt_keyP hR hx hh h2)
                (first | lia | omega)) (fun x hx => (List.mem_filter.mp hx).2)
        have hdl : dl h r = 0 := by unfold dl; rw [if_neg fun z => hne (keyR_inj hR.nd hh hr z.symm)]
        rw [hdl] at a b
        rw [if_neg (by decide)]
        have hany : (((r :: P.filter (ltR r)).map (entD R r)).any fun kv => decide (kv.1 = keyR h)) = false := by
          rw [List.any_eq_false]
          intro p hp z
          obtain ⟨q, hq, rfl⟩ := List.mem_map.mp hp
          have hqh : q = h := keyR_inj hR.nd (hL q hq) hh (of_decide_eq_true z)
          rcases List.mem_cons.mp hq with e' | hq
          · exact hne (by rw [← hqh, e'])
          · exact npq q (List.mem_filter.mp hq).1 h List.mem_cons_self hqh
        unfold putA
        have hfil : (P ++ [h]).filter (ltR r) = P.filter (ltR r) ++ [h] := by
          rw [List.filter_append]
          have : [h].filter (ltR r) = [h] := by
            rw [List.filter_eq_self]
            intro x hx
            rw [List.mem_singleton.mp hx]; exact hrh
          rw [this]
        rw [hany, if_neg (by decide), hfil, ← List.cons_append, List.map_append]
        generalize (r :: P.filter (ltR r)).filter (fun q => ltR q h) = L at *
        rw [List.map_map, List.map_map]
        congr 1
        show [(keyR h, _, _)] = [(keyR h, nV R r (dl h), mV R r (dl h))]
        rw [a, b, Int.zero_add, Int.zero_sub]; rfl
      · have hemp : ((((r :: P.filter (ltR r)).filter fun q => ltR q h).map fun q => (nV R r (dl q), mV R r (dl q))).isEmpty) = true := by
          rw [List.isEmpty_iff, List.map_eq_nil_iff, List.filter_eq_nil_iff]
          intro q hq z
          rcases hge q hq with e' | e'
          · rw [e'] at z; exact hrh z
          · exact hrh (hR.trans hr (hL q hq) hh e' z)
        have hfil : (P ++ [h]).filter (ltR r) = P.filter (ltR r) := by
          rw [List.filter_append]
          have : [h].filter (ltR r) = [] := by
            rw [List.filter_eq_nil_iff]
            intro x hx z
            rw [List.mem_singleton.mp hx] at z
            exact hrh z
          rw [this, List.append_nil]
        rw [hemp, if_pos rfl, hfil]
    rw [key]
    exact due_pre hR hr Q (P ++ [h]) (by rw [List.append_assoc]; exact e)
theorem due_rows (hR : RowsOk R) {r : Row3} (hr : r ∈ R) : dueR R r = (r :: (rowsS R).filter (ltR r)).map (entD R r) := by
  unfold dueR dueL
  rw [risL_rows hR]
  have := due_pre hR hr (rowsS R) [] rfl
  obtain ⟨a, b⟩ := nV_self hR hr
  rw [← this]
  show _ = List.foldl _ [(keyR r, nV R r (dl r), mV R r (dl r))] _
  rw [a, b]
end
end Mine
end

noncomputable section -- V27
open PySem PyProof.Rows
set_option maxRecDepth 100000
namespace Mine

section
variable {R : List Row3}
noncomputable def val2 (t : List (Str × Int × Int)) (k : Str) : Int × Int := (lookA t k).getD (0, 0)
theorem look_stepT (acc : List (Str × Int × Int)) (k k' : Str) (sg : Int) : lookA (stepT acc k' sg) k = if k = k' then some (1 + (val2 acc k').1, sg + (val2 acc k').2) else lookA acc k := by
  unfold stepT val2
  cases e : lookA acc k' with
  | none =>
    show lookA (putA acc k' (1, sg)) k = _
    rw [lookA_putA]
    simp
  | some v =>
    show lookA (putA acc k' (1 + v.1, sg + v.2)) k = _
    rw [lookA_putA]
    simp
theorem val2_stepT (acc : List (Str × Int × Int)) (q x : Row3) (sg : Int) : (val2 (stepT acc (keyR x) sg) (keyR q)).1 = (val2 acc (keyR q)).1 + dl q x ∧ (val2 (stepT acc (keyR x) sg) (keyR q)).2 = (val2 acc (keyR q)).2 + dl q x * sg := by
  have h := look_stepT acc (keyR q) (keyR x) sg
  unfold dl
  by_cases e : keyR x = keyR q
  · rw [if_pos e.symm, e] at h
    rw [if_pos e, e]
    have h2 : val2 (stepT acc (keyR q) sg) (keyR q) = (1 + (val2 acc (keyR q)).1, sg + (val2 acc (keyR q)).2) := by
      show (lookA (stepT acc (keyR q) sg) (keyR q)).getD (0, 0) = _
      rw [h]; rfl
    rw [h2]
    constructor
    · show 1 + _ = _; (first | lia | omega)
    · show sg + _ = _; (first | lia | omega)
  · rw [if_neg fun z => e z.symm] at h
    rw [if_neg e]
    have h2 : val2 (stepT acc (keyR x) sg) (keyR q) = val2 acc (keyR q) := by
      show (lookA (stepT acc (keyR x) sg) (keyR q)).getD (0, 0) = _
      rw [h]; rfl
    rw [h2]
    constructor
    · (first | lia | omega)
    · rw [Int.zero_mul]; (first | lia | omega)
theorem tb_fold (q : Row3) : ∀ (l : List Chn) (t : List (Str × Int × Int)), (val2 (l.foldl (fun l c => stepT l (keyR (lsR c)) (sgn c)) t) (keyR q)).1 = (val2 t (keyR q)).1 + (l.map fun c => dl q (lsR c)).sum ∧ (val2 (l.foldl (fun l c => stepT l (keyR (lsR c)) (sgn c)) t) (keyR q)).2 = (val2 t (keyR q)).2 + (l.map fun c => dl q (lsR c) * sgn c).sum
  | [], t => by simp
  | c :: l, t => by
    obtain ⟨a, b⟩ := tb_fold q l (stepT t (keyR (lsR c)) (sgn c))
    obtain ⟨a', b'⟩ := val2_stepT t q (lsR c) (sgn c)
    rw [List.foldl_cons, a, b, a', b', List.map_cons, List.sum_cons, List.map_cons, List.sum_cons]
    constructor <;> (first | lia | omega)
theorem stepT_mem (acc : List (Str × Int × Int)) (k k' : Str) (sg : Int) : k ∈ (stepT acc k' sg).map (·.1) ↔ k ∈ acc.map (·.1) ∨ k = k' := by
  have key : ∀ v, k ∈ (putA acc k' v).map (·.1) ↔ k ∈ acc.map (·.1) ∨ k = k' := fun v => by
    unfold putA
    by_cases ha : (acc.any fun kv => decide (kv.1 = k')) = true
    · rw [if_pos ha, List.map_map]
      have : (acc.map ((fun x => x.1) ∘ fun kv => if kv.1 = k' then (kv.1, v) else kv)) = acc.map (·.1) := List.map_congr_left fun q _ => by
        simp only [Function.comp]; split <;> rfl
      rw [this]
      constructor
      · exact .inl
      · rintro (h | h)
        · exact h
        · obtain ⟨q, hq, he⟩ := List.any_eq_true.mp ha
          exact List.mem_map.mpr ⟨q, hq, by rw [h]; simpa using he⟩
    · rw [if_neg ha, List.map_append, List.mem_append]
      simp
  unfold stepT
  split <;> exact key _
theorem tb_mem (k : Str) : ∀ (l : List Chn) (t : List (Str × Int × Int)), k ∈ (l.foldl (fun l c => stepT l (keyR (lsR c)) (sgn c)) t).map (·.1) ↔ k ∈ t.map (·.1) ∨ ∃ c ∈ l, k = keyR (lsR c)
  | [], t => by simp
  | c :: l, t => by
    rw [List.foldl_cons, tb_mem k l, stepT_mem]
    simp only [List.mem_cons, exists_eq_or_imp, or_assoc]
theorem level_sg (hR : RowsOk R) (i : Nat) (r q : Row3) : (((Lv R i).filter (fromR r)).map fun c => dl q (lsR c) * sgn c).sum = sumS (Lv R i) r (dl q) * sgI i := by
  unfold sumS
  rw [← sum_mul]
  congr 1
  refine List.map_congr_left fun c hc => ?_
  unfold sgn sgI
  rw [(Lv_good hR (List.mem_filter.mp hc).1).2]
theorem tb_val (hR : RowsOk R) (r q : Row3) : val2 (tbF (chainsR R) r) (keyR q) = (nV R r (dl q), mV R r (dl q)) := by
  obtain ⟨a, b⟩ := tb_fold q ((chainsR R).filter (fromR r)) []
  have z : val2 [] (keyR q) = (0, 0) := rfl
  rw [z] at a b
  have a' : (val2 (tbF (chainsR R) r) (keyR q)).1 = nV R r (dl q) := by
    refine Eq.trans a ?_
    unfold chainsR nV sumS
    simp only [List.filter_append, List.map_append, List.sum_append]
    (first | lia | omega)
  have b' : (val2 (tbF (chainsR R) r) (keyR q)).2 = mV R r (dl q) := by
    refine Eq.trans b ?_
    unfold chainsR mV
    simp only [List.filter_append, List.map_append, List.sum_append, level_sg hR]
    have s0 : sgI 0 = 1 := by decide
    have s1 : sgI 1 = -1 := by decide
    have s2 : sgI 2 = 1 := by decide
    have s3 : sgI 3 = -1 := by decide
    have s4 : sgI 4 = 1 := by decide
    rw [s0, s1, s2, s3, s4]
    (first | lia | omega)
  exact Prod.ext a' b'
theorem row_nodup (hR : RowsOk R) : ∀ {L : List Row3}, (∀ q ∈ L, q ∈ R) → L.Nodup → (L.map keyR).Nodup
  | [], _, _ => List.nodup_nil
  | q :: L, h, hn => by
    rw [List.nodup_cons] at hn
    rw [List.map_cons, List.nodup_cons]
    refine ⟨fun z => ?_, row_nodup hR (fun x hx => h x (List.mem_cons_of_mem _ hx)) hn.2⟩
    obtain ⟨x, hx, e⟩ := List.mem_map.mp z
    have := keyR_inj hR.nd (h x (List.mem_cons_of_mem _ hx)) (h q List.mem_cons_self) e
    exact hn.1 (this ▸ hx)
theorem lookA_ent (hR : RowsOk R) (r : Row3) {L : List Row3} (h : ∀ q ∈ L, q ∈ R) (hn : L.Nodup) {q : Row3} (hq : q ∈ L) : lookA (L.map (entD R r)) (keyR q) = some (nV R r (dl q), mV R r (dl q)) := by
  have : ((L.map (entD R r)).map (·.1)).Nodup := by
    rw [List.map_map]; exact row_nodup hR h hn
  exact lookA_mem this (p := entD R r q) (List.mem_map.mpr ⟨q, hq, rfl⟩)
theorem fin_tb (hR : RowsOk R) : ∀ r ∈ R, (tbF (chainsR R) r).length = (dueR R r).length ∧ ∀ x ∈ tbF (chainsR R) r, lookA (dueR R r) x.1 = some x.2 := fun r hr => by
  rw [due_rows hR hr]
  have hLR : ∀ q ∈ r :: (rowsS R).filter (ltR r), q ∈ R := fun q hq => by
    rcases List.mem_cons.mp hq with rfl | hq
    · exact hr
    · exact rowsS_mem hR q (List.mem_filter.mp hq).1
  have hLn : (r :: (rowsS R).filter (ltR r)).Nodup := by
    rw [List.nodup_cons]
    refine ⟨fun z => ?_, (rowsS_nodup hR).filter _⟩
    have := (List.mem_filter.mp z).2
    rw [hR.irr hr] at this; cases this
  have hok := tbF_ok (R := R) (cs := chainsR R) (fun c hc => (chains_good hR hc).mem _ (lsR_mem (chains_good hR hc).ne)) r
  have hmem : ∀ k, k ∈ (tbF (chainsR R) r).map (·.1) ↔ ∃ c ∈ (chainsR R).filter (fromR r), k = keyR (lsR c) := fun k => by
    have := tb_mem k ((chainsR R).filter (fromR r)) []
    unfold tbF
    refine Iff.trans this ?_
    simp
  have hfrom : ∀ k ∈ (tbF (chainsR R) r).map (·.1), ∃ q ∈ r :: (rowsS R).filter (ltR r), k = keyR q := fun k hk => by
    obtain ⟨c, hc, rfl⟩ := (hmem k).mp hk
    obtain ⟨h1, h2⟩ := List.mem_filter.mp hc
    obtain ⟨g1, g2⟩ := from_ls hR hr (chains_good hR h1) h2
    refine ⟨lsR c, ?_, rfl⟩
    rcases g2 with e | e
    · rw [e]; exact List.mem_cons_self
    · exact List.mem_cons_of_mem _ (List.mem_filter.mpr ⟨rowsS_all hR _ g1, e⟩)
  have hto : ∀ q ∈ r :: (rowsS R).filter (ltR r), keyR q ∈ (tbF (chainsR R) r).map (·.1) := fun q hq => by
    rw [hmem]
    rcases List.mem_cons.mp hq with e | hq'
    · exact ⟨[r], List.mem_filter.mpr ⟨ones_in hr, by simp [fromR, hdR]⟩, by rw [e]; rfl⟩
    · have hqR := hLR q hq
      refine ⟨[r, q], List.mem_filter.mpr ⟨?_, by simp [fromR, hdR]⟩, rfl⟩
      unfold chainsR
      refine List.mem_append.mpr (.inr (List.mem_append.mpr (.inl ?_)))
      show [r, q] ∈ (Lv R 0).flatMap (extC R)
      refine List.mem_flatMap.mpr ⟨[r], List.mem_map.mpr ⟨r, hr, rfl⟩, List.mem_map.mpr ⟨q, mem_deep.mpr ⟨hqR, (List.mem_filter.mp hq').2⟩, rfl⟩⟩
  constructor
  · have l1 := nodup_len (m := (r :: (rowsS R).filter (ltR r)).map keyR) hok.1 fun x hx => by
      obtain ⟨q, hq, e⟩ := hfrom x hx
      exact List.mem_map.mpr ⟨q, hq, e.symm⟩
    have l2 := nodup_len (m := (tbF (chainsR R) r).map (·.1)) (row_nodup hR hLR hLn) fun x hx => by
      obtain ⟨q, hq, rfl⟩ := List.mem_map.mp hx
      exact hto q hq
    simp only [List.length_map] at l1 l2 ⊢
    (first | lia | omega)
  · intro x hx
    obtain ⟨q, hq, e⟩ := hfrom x.1 (List.mem_map.mpr ⟨x, hx, rfl⟩)
    have h1 := tb_val hR r q
    have h2 := lookA_mem hok.1 hx
    unfold val2 at h1
    rw [← e, h2] at h1
    rw [e, lookA_ent hR r hLR hLn hq]
    exact congrArg some (Eq.symm h1)
theorem fin_ok (hR : RowsOk R) : FinOk R (chainsR R) where
  bk := fin_bk hR
  cl := fin_cl hR
  tb := fin_tb hR
  ord := chains_ord hR
  two := chains_two hR
  due := fin_due hR
end
end Mine
end

noncomputable section -- W3
open PySem PySem.W PyProof.Rows
set_option maxRecDepth 100000
namespace Mine

noncomputable def strKeysB (l : List DictEntry) : Bool := l.all fun e => match e.key with | .str _ _ => true | _ => false
theorem strKeysB_of {es : Array DictEntry} (hs : strKeysB es.toList = true) : StrKeys es := fun e he => by
  have := List.all_eq_true.mp hs e (Array.mem_toList_iff.mpr he)
  cases hk : e.key with
  | str n t => exact ⟨n, t, rfl⟩
  | _ => rw [hk] at this; cases this
theorem ns_of {K : Frag} {h : Heap} (X : K.In h) {N : Addr} {o : Obj} {es : Array DictEntry} {n : Nat} (hk : K.lookup N = some o) (hd : o.data = .dict es n) (hs : strKeysB es.toList = true) : h.Ns N (nsFind es) :=
  ⟨o, es, n, X _ _ hk, hd, strKeysB_of hs, fun _ => rfl⟩
noncomputable def mapB (K : Frag) : Bool := K.all fun p => decide (p.1 < 185 ∧ p.1 ≠ 72 ∧ p.1 ≠ 145)
theorem mapB_of {K : Frag} (q : mapB K = true) : ∀ p ∈ K, p.1 < 185 ∧ p.1 ≠ 72 ∧ p.1 ≠ 145 := fun p hp => of_decide_eq_true (List.all_eq_true.mp q p hp)

noncomputable def esOf (K : Frag) (N : Addr) : Array DictEntry := match K.lookup N with | some ⟨_, _, .dict es _, _⟩ => es | _ => #[]
noncomputable def isDictB (K : Frag) (N : Addr) : Bool := match K.lookup N with | some ⟨_, _, .dict _ _, _⟩ => true | _ => false
theorem ns_es {K : Frag} {h : Heap} (X : K.In h) {N : Addr} (hB : isDictB K N = true) (hs : strKeysB (esOf K N).toList = true) : h.Ns N (nsFind (esOf K N)) := by
  unfold isDictB at hB
  unfold esOf at hs ⊢
  split at hB
  · rename_i c d es n sl q
    rw [q] at hs
    exact ns_of X q rfl hs
  · cases hB
noncomputable def clsO (nm : Str) (C N : Addr) (t0 t1 : Tok) : Obj := excClassObj nm nm C N [.type "object"] [.type "object"] true [] [] false none none none none (some (.str nm t0)) (some (.str nm t1)) (some (.bool true)) "object.__new__"
noncomputable def clsList : List (Addr × Addr × Str × Tok × Tok) := [(59, 58, Str.ofString "_netrclex", 196, 204), (139, 138, Str.ofString "Whitespace", 287, 295)]
structure KChk (K : Frag) : Prop where
  fns : (fnTable.map fun p => K.lookup p.1) = fnTable.map fun p => some (fnObj p.2)
  cod : (fnTable.all fun p => codeIn K p.2.code p.2.qualname) = true
  glob : (globTable.map fun p => nsIn K mainGlobals p.1) = globTable.map fun p => some (some p.2)
  none : (builtNames.map fun x => nsIn K mainGlobals x) = builtNames.map fun _ => some none
  cls : (clsList.map fun p => (K.lookup p.1, isDictB K p.2.1, strKeysB (esOf K p.2.1).toList)) = clsList.map fun p => (some (clsO p.2.2.1 p.1 p.2.1 p.2.2.2.1 p.2.2.2.2), true, true)
  look : (clsTab.map fun p => p.2.2.map fun q => nsFind (esOf K p.2.1) q.1) = clsTab.map fun p => p.2.2.map fun q => q.2
  lt : mapB K = true
  reads : readsIn K 139 (.type "type") = true
  st : (findCls K (.ref 139) (.type "type") (Str.ofString "S"), findCls K (.ref 139) (.type "type") (Str.ofString "T")) = (some (.val (.str (Str.ofString " ") 300)), some (.val (.str (Str.ofString "\t") 301)))
  made : (([(59, 35), (139, 94)] : List (Addr × Addr)).map fun p => (makesIn K p.1, findIn K (.ref p.1) "__init__", typeIn K (.ref p.2))) = ([(59, 35), (139, 94)] : List (Addr × Addr)).map fun p => (true, some (some (.ref p.2)), some (.type "function"))
  tab : tabIn K (Str.ofString "add_callers") = some (76, 72)
  hd2 : codeHdIn K 149 145 = true
  law : nsIn K mainGlobals (Str.ofString "law") = some (some (.ref 184))
theorem map_eqAt {α β : Type} {f g : α → β} {l : List α} (e : l.map f = l.map g) : ∀ a ∈ l, f a = g a := List.map_inj_left.mp e
theorem KChk.frag {K : Frag} (k : KChk K) : FragOk K where
  lt := mapB_of k.lt
  reads := k.reads
  s := congrArg Prod.fst k.st
  t := congrArg Prod.snd k.st
  makes := fun p hp => have e := map_eqAt k.made p hp; ⟨congrArg Prod.fst e, congrArg (fun x => x.2.1) e, congrArg (fun x => x.2.2) e⟩
theorem tab_of' {K : Frag} {p : Program} {loose : List Str} {mean : ExcName → Option Value} {mg mb : Str → Option Value} {h : Heap} {x : Str} {c P : Addr} (T : Top p loose mean mg mb h) (X : K.In h) (hr : ((recsOf p).find? fun e => e.name == x).isSome = true) (ht : tabIn K x = some (c, P)) : CodeHd h c P ∧ h.get? P = some (PySem.W.tabObj #[]) := by
  obtain ⟨d, hd⟩ := Option.isSome_iff_exists.mp hr
  exact tab_of T X hd ht
theorem top_cls {K : Frag} {h : Heap} (X : K.In h) (k : KChk K) : ∀ p ∈ clsTab, ∃ mN, ClsAt h p.1 p.2.1 mN ∧ ∀ q ∈ p.2.2, mN q.1 = q.2 := by
  intro p hp
  have hq : ∃ nm t0 t1, (p.1, p.2.1, nm, t0, t1) ∈ clsList := by
    simp only [clsTab, List.mem_cons, List.not_mem_nil, or_false] at hp
    rcases hp with rfl | rfl
    · exact ⟨_, _, _, .head _⟩
    · exact ⟨_, _, _, .tail _ (.head _)⟩
  obtain ⟨nm, t0, t1, hm⟩ := hq
  have e := map_eqAt k.cls _ hm
  exact ⟨_, ⟨⟨_, _, _, _, _, _, _, _, _, _, _, _, X _ _ (congrArg Prod.fst e)⟩, ns_es X (congrArg (fun x => x.2.1) e) (congrArg (fun x => x.2.2) e)⟩, map_eqAt (map_eqAt k.look p hp)⟩
theorem top_G {w : World} {K : Frag} {p : Program} {h : Heap} {loose : List Str} {mean : ExcName → Option Value} {mg mb : Str → Option Value} (X : K.In h) (T : Top p loose mean mg mb h) (k : KChk K) (hr : ((recsOf p).find? fun e => e.name == Str.ofString "add_callers").isSome = true) : G w h ∧ h.get? 72 = some (PySem.W.tabObj #[]) ∧ CodeHd h 76 72 ∧ mg (Str.ofString "law") = some (.ref 184) := by
  obtain ⟨t1, t2⟩ := tab_of' T X hr k.tab
  refine ⟨⟨fun p hp => ⟨X _ _ (map_eqAt k.fns p hp), codeRec_of X (List.all_eq_true.mp k.cod p hp)⟩, ⟨mg, T.g, fun p hp => mg_of X T.g (map_eqAt k.glob p hp), fun x hx => mg_none_of X T.g (map_eqAt k.none x hx)⟩, ⟨mb, T.b, T.builtins⟩, T.nolimit, ⟨#[], t1.code t2 trivial, t1.tab t2⟩, top_cls X k, ⟨_, X, k.frag⟩, codeHd_of_K X k.hd2, ?_⟩, t2, t1, mg_of X T.g k.law⟩
  obtain ⟨bm, ob, e1, e2, e3, e4, e5, e6⟩ := T.bmain
  have e7 : mg "__builtins__" = some (.ref 4) := mg_of X T.g (map_eqAt k.glob ("__builtins__", .ref 4) (by exact mem_lk (by kernel_rfl)))
  rw [e1] at e7; cases e7
  exact ⟨ob, e3, e4, e5, e6⟩

theorem well_list_at {P : Params} {h : Heap} {a : Addr} {ys : List WData} (W : Well P h (.ref a) (.list ys)) : ∃ vs : List Value, h.get? a = some (lstO vs.toArray 0) ∧ WellAll P h vs ys := by
  cases W with
  | list e r => exact ⟨_, e, r⟩
theorem well_ints {w : World} {μ : Addr → Prop} {h : Heap} : ∀ {xs : List Int} {vs : List Value}, WellAll w.params h vs (ofPys (xs.map .int)) → RpL w μ h vs (xs.map .int)
  | [], vs, W => by
    have W' : WellAll w.params h vs [] := W
    cases W'; exact .nil
  | x :: xs, vs, W => by
    have W' : WellAll w.params h vs (.int x :: ofPys (xs.map .int)) := W
    cases W' with
    | cons r q => exact .cons (by cases r; exact .int _ _) (well_ints q)
theorem script_rp {w : World} {μ : Addr → Prop} {h : Heap} {a : Addr} {xs : List Int} (W : Well w.params h (.ref a) (ofPy (.list (xs.map .int)))) (ha : ¬ μ a) : RpL w μ h [.ref a] [.lst (xs.map .int)] := by
  have W' : Well w.params h (.ref a) (.list (ofPys (xs.map .int))) := W
  obtain ⟨vs, e, r⟩ := well_list_at W'
  exact .cons (.lst ha e (well_ints r)) .nil
theorem law_ends {w : World} {s₁ : Shared} {la : Addr} {xs : List Int} {A : Around} (hA : Room A 7) (g : G w s₁.heap) (c72 : CodeHd s₁.heap 76 72) (e72 : s₁.heap.get? 72 = some (PySem.W.tabObj #[])) (e145 : s₁.heap.get? 145 = some (PySem.W.tabObj #[]))
    (hg : s₁.gens = #[]) (W : Well w.params s₁.heap (.ref la) (ofPy (.list (xs.map .int)))) (hl : xs.length ≤ 63) :
    codeAny (model PG w) A (.call (.ref 184) ⟨[.ref la], []⟩) (fun r s' => r = .ok (.ret (.bool true)) ∧ OldK s₁.heap s'.heap ∧ s'.os = s₁.os ∧ AllBare s'.gens) s₁ := by
  have hla : ¬ (la = 72 ∨ la = 145) := by
    obtain ⟨vs, e, _⟩ := well_list_at (ys := ofPys (xs.map .int)) W
    rintro (z | z)
    · rw [z, e72] at e; cases e
    · rw [z, e145] at e; cases e
  have hR := rowsOf_ok xs
  refine codeAny_mono (fn_law (μ := fun b => b = 72 ∨ b = 145) (CH := chainsR (rowsOf xs)) hA g ⟨.inl rfl, fun b hb => ?_, fun b hb => .inr hb⟩ (.inr rfl) e145 (script_rp W hla) hl (chains_ok hR) (fin_ok hR)) fun r s' q => ?_
  · rcases hb with rfl | rfl
    · exact ⟨_, e72⟩
    · exact ⟨_, e145⟩
  · match r, q with
    | .ok (.ret v), q =>
      obtain ⟨rfl, keep, ⟨ws, h145⟩, ⟨ps, _, ⟨_, h72⟩⟩, hos, hb⟩ := q
      have t72 := (c72.tab e72).isCodeTable
      have t145 := (g.hd2.tab e145).isCodeTable
      refine ⟨rfl, ⟨fun b o e => ?_, fun b o e => ?_⟩, hos, hb (.of_eq hg)⟩
      · by_cases n1 : b = 72
        · subst n1
          rw [e72] at e; cases e
          exact .inr (.inl ⟨t72, rfl, #[], ps, rfl, by rw [Array.empty_append]; exact h72⟩)
        by_cases n2 : b = 145
        · subst n2
          rw [e145] at e; cases e
          exact .inr (.inl ⟨t145, rfl, #[], ws, rfl, by rw [Array.empty_append]; exact h145⟩)
        exact .inl (keep b o e n1 n2)
      · by_cases n1 : b = 72
        · subst n1; exact ⟨_, h72⟩
        by_cases n2 : b = 145
        · subst n2; exact ⟨_, h145⟩
        exact ⟨o, keep b o e n1 n2⟩
    | .ok .next, q => exact q.elim
    | .ok .brk, q => exact q.elim
    | .ok .cont, q => exact q.elim
    | .error _, q => exact q.elim
end Mine
end

noncomputable section -- L1
open PySem PySem.W PyProof.Rows
set_option maxRecDepth 100000
namespace Mine

noncomputable abbrev oS (s : String) : Str := Str.ofString s
noncomputable def kCodes : Frag := [
  (34, { cls := .type "code", data := .fields #[.str (oS "__init__") 208, .str (oS "_netrclex.__init__") 209, .str (oS "/claim/cut.py") 210, .int 7 0, .int 2 0, .int 0 0, .int 0 0, .int 3 0, .ref 29, .bool true, .int 181 0, .ref 30, .none, .ref 31, .ref 32, .ref 33, .int 213 0, .int 7 0, .str (oS "/claim/cut.py") 214] }),
  (41, { cls := .type "code", data := .fields #[.str (oS "_read_char") 216, .str (oS "_netrclex._read_char") 217, .str (oS "/claim/cut.py") 218, .int 13 0, .int 1 0, .int 0 0, .int 0 0, .int 3 0, .ref 36, .bool true, .int 181 0, .ref 37, .none, .ref 38, .ref 39, .ref 40, .int 221 0, .int 13 0, .str (oS "/claim/cut.py") 222] }),
  (48, { cls := .type "code", data := .fields #[.str (oS "get_token") 224, .str (oS "_netrclex.get_token") 225, .str (oS "/claim/cut.py") 226, .int 19 0, .int 1 0, .int 0 0, .int 0 0, .int 3 0, .ref 43, .bool true, .int 181 0, .ref 44, .none, .ref 45, .ref 46, .ref 47, .int 231 0, .int 19 0, .str (oS "/claim/cut.py") 232] }),
  (55, { cls := .type "code", data := .fields #[.str (oS "push_token") 234, .str (oS "_netrclex.push_token") 235, .str (oS "/claim/cut.py") 236, .int 46 0, .int 2 0, .int 0 0, .int 0 0, .int 3 0, .ref 50, .bool true, .int 181 0, .ref 51, .none, .ref 52, .ref 53, .ref 54, .int 239 0, .int 46 0, .str (oS "/claim/cut.py") 240] }),
  (69, { cls := .type "code", data := .fields #[.str (oS "add_func_stats") 256, .str (oS "add_func_stats") 257, .str (oS "/claim/cut.py") 258, .int 49 0, .int 2 0, .int 0 0, .int 0 0, .int 3 0, .ref 64, .bool true, .int 181 0, .ref 65, .none, .ref 66, .ref 67, .ref 68, .int 271 0, .int 49 0, .str (oS "/claim/cut.py") 272] }),
  (76, { cls := .type "code", data := .fields #[.str (oS "add_callers") 274, .str (oS "add_callers") 275, .str (oS "/claim/cut.py") 276, .int 53 0, .int 2 0, .int 0 0, .int 0 0, .int 3 0, .ref 71, .bool true, .int 181 0, .ref 72, .none, .ref 73, .ref 74, .ref 75, .int 282 0, .int 53 0, .str (oS "/claim/cut.py") 283] }),
  (93, { cls := .type "code", data := .fields #[.str (oS "__init__") 304, .str (oS "Whitespace.__init__") 305, .str (oS "/claim/cut.py") 306, .int 70 0, .int 2 0, .int 0 0, .int 0 0, .int 3 0, .ref 88, .bool true, .int 181 0, .ref 89, .none, .ref 90, .ref 91, .ref 92, .int 316 0, .int 70 0, .str (oS "/claim/cut.py") 317] }),
  (100, { cls := .type "code", data := .fields #[.str (oS "longest_run_of_spaces") 319, .str (oS "Whitespace.longest_run_of_spaces") 320, .str (oS "/claim/cut.py") 321, .int 93 0, .int 1 0, .int 0 0, .int 0 0, .int 3 0, .ref 95, .bool true, .int 181 0, .ref 96, .none, .ref 97, .ref 98, .ref 99, .int 325 0, .int 93 0, .str (oS "/claim/cut.py") 326] }),
  (107, { cls := .type "code", data := .fields #[.str (oS "indent_level") 328, .str (oS "Whitespace.indent_level") 329, .str (oS "/claim/cut.py") 330, .int 97 0, .int 2 0, .int 0 0, .int 0 0, .int 3 0, .ref 102, .bool true, .int 181 0, .ref 103, .none, .ref 104, .ref 105, .ref 106, .int 337 0, .int 97 0, .str (oS "/claim/cut.py") 338] }),
  (128, { cls := .type "code", data := .fields #[.str (oS "less") 356, .str (oS "Whitespace.less") 357, .str (oS "/claim/cut.py") 358, .int 110 0, .int 2 0, .int 0 0, .int 0 0, .int 3 0, .ref 123, .bool true, .int 181 0, .ref 124, .none, .ref 125, .ref 126, .ref 127, .int 363 0, .int 110 0, .str (oS "/claim/cut.py") 364] }),
  (149, { cls := .type "code", data := .fields #[.str (oS "_law_machine") 389, .str (oS "_law_machine") 390, .str (oS "/claim/cut.py") 391, .int 124 0, .int 1 0, .int 0 0, .int 0 0, .int 3 0, .ref 144, .bool true, .int 181 0, .ref 145, .none, .ref 146, .ref 147, .ref 148, .int 397 0, .int 124 0, .str (oS "/claim/cut.py") 398] }),
  (154, { cls := .type "code", data := .fields #[.str (oS "_law_written") 400, .str (oS "_law_written") 401, .str (oS "/claim/cut.py") 402, .int 134 0, .int 2 0, .int 0 0, .int 0 0, .int 3 0, .ref 151, .bool true, .int 181 0, .ref 152, .none, .none, .none, .ref 153, .int 403 0, .int 134 0, .str (oS "/claim/cut.py") 404] }),
  (161, { cls := .type "code", data := .fields #[.str (oS "_law_column") 406, .str (oS "_law_column") 407, .str (oS "/claim/cut.py") 408, .int 138 0, .int 2 0, .int 0 0, .int 0 0, .int 3 0, .ref 156, .bool true, .int 181 0, .ref 157, .none, .ref 158, .ref 159, .ref 160, .int 413 0, .int 138 0, .str (oS "/claim/cut.py") 414] }),
  (168, { cls := .type "code", data := .fields #[.str (oS "_law_lead") 416, .str (oS "_law_lead") 417, .str (oS "/claim/cut.py") 418, .int 146 0, .int 1 0, .int 0 0, .int 0 0, .int 3 0, .ref 163, .bool true, .int 181 0, .ref 164, .none, .ref 165, .ref 166, .ref 167, .int 422 0, .int 146 0, .str (oS "/claim/cut.py") 423] }),
  (173, { cls := .type "code", data := .fields #[.str (oS "_law_signed") 425, .str (oS "_law_signed") 426, .str (oS "/claim/cut.py") 427, .int 151 0, .int 2 0, .int 0 0, .int 0 0, .int 3 0, .ref 170, .bool true, .int 181 0, .ref 171, .none, .none, .none, .ref 172, .int 428 0, .int 151 0, .str (oS "/claim/cut.py") 429] }),
  (178, { cls := .type "code", data := .fields #[.str (oS "_law_tables") 431, .str (oS "_law_tables") 432, .str (oS "/claim/cut.py") 433, .int 154 0, .int 2 0, .int 0 0, .int 0 0, .int 3 0, .ref 175, .bool true, .int 181 0, .ref 176, .none, .none, .none, .ref 177, .int 434 0, .int 154 0, .str (oS "/claim/cut.py") 435] }),
  (183, { cls := .type "code", data := .fields #[.str (oS "law") 437, .str (oS "law") 438, .str (oS "/claim/cut.py") 439, .int 170 0, .int 1 0, .int 0 0, .int 0 0, .int 3 0, .ref 180, .bool true, .int 181 0, .ref 181, .none, .none, .none, .ref 182, .int 440 0, .int 170 0, .str (oS "/claim/cut.py") 441] })]
noncomputable def kData (P : Params) : Frag := [
  (2, { cls := .none, data := .dict #[] }),
  (3, { cls := .type "dict", data := .dict #[{ hash := PyData.keyHash P (oS "__name__"), key := .str (oS "__name__") 165, val := .str (oS "law_pe0188_01") 387 }, { hash := PyData.keyHash P (oS "__doc__"), key := .str (oS "__doc__") 166, val := .none }, { hash := PyData.keyHash P (oS "__package__"), key := .str (oS "__package__") 167, val := .none }, { hash := PyData.keyHash P (oS "__loader__"), key := .str (oS "__loader__") 168, val := .builtin "__main__.__loader__#opaque" }, { hash := PyData.keyHash P (oS "__spec__"), key := .str (oS "__spec__") 169, val := .none }, { hash := PyData.keyHash P (oS "__annotations__"), key := .str (oS "__annotations__") 170, val := .ref 6 }, { hash := PyData.keyHash P (oS "__builtins__"), key := .str (oS "__builtins__") 171, val := .ref 4 }, { hash := PyData.keyHash P (oS "__file__"), key := .str (oS "__file__") 173, val := .str (oS "/claim/cut.py") 172 }, { hash := PyData.keyHash P (oS "__cached__"), key := .str (oS "__cached__") 174, val := .none }, { hash := PyData.keyHash P (oS "_wall"), key := .str (oS "_wall") 193, val := .ref 21 }, { hash := PyData.keyHash P (oS "_netrclex"), key := .str (oS "_netrclex") 253, val := .ref 59 }, { hash := PyData.keyHash P (oS "add_func_stats"), key := .str (oS "add_func_stats") 273, val := .ref 70 }, { hash := PyData.keyHash P (oS "add_callers"), key := .str (oS "add_callers") 284, val := .ref 77 }, { hash := PyData.keyHash P (oS "Whitespace"), key := .str (oS "Whitespace") 386, val := .ref 139 }, { hash := PyData.keyHash P (oS "_law_machine"), key := .str (oS "_law_machine") 399, val := .ref 150 }, { hash := PyData.keyHash P (oS "_law_written"), key := .str (oS "_law_written") 405, val := .ref 155 }, { hash := PyData.keyHash P (oS "_law_column"), key := .str (oS "_law_column") 415, val := .ref 162 }, { hash := PyData.keyHash P (oS "_law_lead"), key := .str (oS "_law_lead") 424, val := .ref 169 }, { hash := PyData.keyHash P (oS "_law_signed"), key := .str (oS "_law_signed") 430, val := .ref 174 }, { hash := PyData.keyHash P (oS "_law_tables"), key := .str (oS "_law_tables") 436, val := .ref 179 }, { hash := PyData.keyHash P (oS "law"), key := .str (oS "law") 442, val := .ref 184 }] 21 }),
  (58, { cls := .type "dict", data := .dict #[{ hash := PyData.keyHash P (oS "__module__"), key := .str (oS "__module__") 203, val := .str (oS "cpy313.netrc") 194 }, { hash := PyData.keyHash P (oS "__firstlineno__"), key := .str (oS "__firstlineno__") 207, val := .int 5 206 }, { hash := PyData.keyHash P (oS "__init__"), key := .str (oS "__init__") 215, val := .ref 35 }, { hash := PyData.keyHash P (oS "_read_char"), key := .str (oS "_read_char") 223, val := .ref 42 }, { hash := PyData.keyHash P (oS "get_token"), key := .str (oS "get_token") 233, val := .ref 49 }, { hash := PyData.keyHash P (oS "push_token"), key := .str (oS "push_token") 241, val := .ref 56 }, { hash := PyData.keyHash P (oS "__static_attributes__"), key := .str (oS "__static_attributes__") 246, val := .ref 57 }, { hash := PyData.keyHash P (oS "__dict__"), key := .str (oS "__dict__") 248, val := .ref 60 }, { hash := PyData.keyHash P (oS "__weakref__"), key := .str (oS "__weakref__") 250, val := .ref 61 }, { hash := PyData.keyHash P (oS "__doc__"), key := .str (oS "__doc__") 251, val := .none }] 4 }),
  (59, { cls := .type "type", data := .cls { name := oS "_netrclex", bases := [.type "object"], mro := [.ref 59, .type "object"], ns := 58, qualname := oS "_netrclex" }, slots := #[none, none, some (.str (oS "_netrclex") 196), some (.str (oS "_netrclex") 204), some (.builtin "object.__new__"), some (.bool true)] }),
  (138, { cls := .type "dict", data := .dict #[{ hash := PyData.keyHash P (oS "__module__"), key := .str (oS "__module__") 294, val := .str (oS "cpy313.tabnanny") 285 }, { hash := PyData.keyHash P (oS "__firstlineno__"), key := .str (oS "__firstlineno__") 298, val := .int 67 297 }, { hash := PyData.keyHash P (oS "S"), key := .str (oS "S") 302, val := .str (oS " ") 300 }, { hash := PyData.keyHash P (oS "T"), key := .str (oS "T") 303, val := .str (oS "\t") 301 }, { hash := PyData.keyHash P (oS "__init__"), key := .str (oS "__init__") 318, val := .ref 94 }, { hash := PyData.keyHash P (oS "longest_run_of_spaces"), key := .str (oS "longest_run_of_spaces") 327, val := .ref 101 }, { hash := PyData.keyHash P (oS "indent_level"), key := .str (oS "indent_level") 339, val := .ref 108 }, { hash := PyData.keyHash P (oS "equal"), key := .str (oS "equal") 347, val := .ref 115 }, { hash := PyData.keyHash P (oS "not_equal_witness"), key := .str (oS "not_equal_witness") 355, val := .ref 122 }, { hash := PyData.keyHash P (oS "less"), key := .str (oS "less") 365, val := .ref 129 }, { hash := PyData.keyHash P (oS "not_less_witness"), key := .str (oS "not_less_witness") 373, val := .ref 136 }, { hash := PyData.keyHash P (oS "__static_attributes__"), key := .str (oS "__static_attributes__") 379, val := .ref 137 }, { hash := PyData.keyHash P (oS "__dict__"), key := .str (oS "__dict__") 381, val := .ref 140 }, { hash := PyData.keyHash P (oS "__weakref__"), key := .str (oS "__weakref__") 383, val := .ref 141 }, { hash := PyData.keyHash P (oS "__doc__"), key := .str (oS "__doc__") 384, val := .none }] 4 }),
  (139, { cls := .type "type", data := .cls { name := oS "Whitespace", bases := [.type "object"], mro := [.ref 139, .type "object"], ns := 138, qualname := oS "Whitespace" }, slots := #[none, none, some (.str (oS "Whitespace") 287), some (.str (oS "Whitespace") 295), some (.builtin "object.__new__"), some (.bool true)] })]
noncomputable def kLaw (P : Params) : Frag := kData P ++ kCodes ++ fnTable.map fun p => (p.1, fnObj p.2)
noncomputable def kAddr : List Addr := [2, 3, 58, 59, 138, 139, 34, 41, 48, 55, 69, 76, 93, 100, 107, 128, 149, 154, 161, 168, 173, 178, 183, 35, 42, 49, 56, 70, 77, 94, 101, 108, 129, 150, 155, 162, 169, 174, 179, 184]
theorem kLaw_addr (P : Params) : kAddr = (kLaw P).map (·.1) := by kernel_rfl
noncomputable def lawHook : Hook := kmHook kLaw kAddr kLaw_addr [145]
theorem kLaw_chk (P : Params) : KChk (kLaw P) := ⟨by kernel_rfl, by kernel_rfl, by kernel_rfl, by kernel_rfl, by kernel_rfl, by kernel_rfl, by kernel_rfl, by kernel_rfl, by kernel_rfl, by kernel_rfl, by kernel_rfl, by kernel_rfl, by kernel_rfl⟩
end Mine
end

noncomputable section -- L2
open PySem PySem.W PyProof.Rows
set_option maxRecDepth 100000
namespace Mine

noncomputable def vwP : Program := view PG [0, 2, 4, 5, 7, 9, 10, 11, 12, 13, 14, 15]
noncomputable def looseL : List Str := [Str.ofString "Whitespace"]
noncomputable abbrev rwR : OpenRow := PySem.Challenge.rw_pe0188_01.row
noncomputable def xtL (s : Shared) : Bool := xlAt vwP [] s && recOk (RowW.records rwR.toRowW) s
noncomputable def followR : String := "special-get-raises"
noncomputable def bootS (w : World) (os : OsState) : Shared := ⟨boot_heap w.params, Array.mk [], boot_drawn, boot_toks, os⟩
noncomputable def looksL (s : Shared) := (openSeen vwP looseL (importedModules PG.main.body) xtL true s, lawHook.obs s)
noncomputable def topQ (p : Program) (w : World) (N : Nat) (s₀ : Shared) : Option Shared :=
  match s₀.heap.isNs mainGlobals && s₀.gens.size == 0 with
  | true => (Fast.tw14082659384304107361 Fast.tw14364793385576792824 p w s₀.heap.objs.size (Fast.tw8920871248978507458 s₀.heap mainGlobals "__annotations__") N s₀ (topStub p)).bind fun s₁ => match staticsOk (importedModules p.main.body) s₀.heap s₁.heap && namesBound p s₁.heap && gensDone s₁ && laidKept s₀.heap s₁.heap with
      | true => some s₁
      | false => none
  | false => none
theorem topQ_eq (p : Program) (w : World) (N : Nat) (s₀ : Shared) : topFrom treeTable p w N s₀ = topQ p w N s₀ := by
  unfold topFrom topQ
  rw [Fast.te14082659384304107361, Fast.te14364793385576792824, Fast.te8920871248978507458]
  rfl
noncomputable def looksQ (s : Shared) := (Fast.tw4187177175401517315 vwP looseL (importedModules PG.main.body) xtL true s, lawHook.obs s)
theorem looksQ_eq : looksL = looksQ := by
  funext s
  unfold looksL looksQ
  rw [Fast.te4187177175401517315]
theorem run_false (w : World) (os : OsState) : (topQ PG (w.withFollow followR false) 2432 (bootS (w.withFollow followR false) os)).map looksQ = some (openGood vwP looseL, lawHook.val (w.withFollow followR false)) := by kernel_rfl
theorem run_true (w : World) (os : OsState) : (topQ PG (w.withFollow followR true) 2432 (bootS (w.withFollow followR true) os)).map looksQ = some (openGood vwP looseL, lawHook.val (w.withFollow followR true)) := by kernel_rfl
theorem shared_eq {s : Shared} {h : Heap} {gs : Array GenState} {d : Drawn} {k : Tok} (e : (s.heap, s.gens, s.drawn, s.toks) = (h, gs, d, k)) : s = ⟨h, gs, d, k, s.os⟩ := by
  obtain ⟨h', gs', d', k', os⟩ := s
  cases e; rfl
theorem law_left : LeftO PG vwP looseL xtL lawHook.obs lawHook.val 2432 := fun w => by
  obtain ⟨s, h1, h2⟩ := Option.map_eq_some_iff.mp (boot_open (p := PG) (N := 2432) (by kernel_rfl) (by kernel_rfl) (fun _ => by kernel_rfl) w)
  have hs : s = bootS w s.os := shared_eq h2
  have e := World.withFollow_self w followR
  unfold openEnds
  rw [h1, hs]
  show (topFrom treeTable PG w 2432 (bootS w s.os)).map looksL = some (openGood vwP looseL, lawHook.val w)
  rw [topQ_eq, looksQ_eq]
  cases hb : w.params.followText followR with
  | false => rw [hb] at e; have := run_false w s.os; rwa [e] at this
  | true => rw [hb] at e; have := run_true w s.os; rwa [e] at this
end Mine
end

noncomputable section -- L3
open PySem PySem.W PyProof.Rows
set_option maxRecDepth 100000
namespace Mine

theorem law_said : PySem.Challenge.rw_pe0188_01.wellSaid = true := by
  rw [Fast.te9446332074065402090]
  kernel_rfl
noncomputable def dLaw : DefRec := match defOf vwP (Str.ofString "law") with
  | some (d, _) => d
  | none => { name := Str.ofString "law", params := fdLaw.params, body := [], scope := fdLaw.scope, pos := ⟨0, 0, 0, 0⟩ }
theorem dLaw_of : defOf vwP (Str.ofString "law") = some (dLaw, []) := by kernel_rfl
theorem law_prom : rwR.toRowW.promised := ⟨[.list []], by kernel_rfl, by kernel_rfl⟩
end Mine
open Mine in
set_option maxHeartbeats 8000000 in
theorem PySem.Challenge.cw_pe0188_01_holds : PySem.Challenge.rw_pe0188_01.Holds := by
  refine holds_law law_said fun said => ?_
  refine holds_open (q := vwP) (loose := looseL) (Xt := xtL) (XP := XL vwP []) (Yf := lawHook.obs) (Ya := lawHook.val) (YP := lawHook.says) (d := dLaw) (kwd := []) (N := 2432) law_left lawHook.of lawHook.keeps
    (fun s e => xl_of s (Bool.and_eq_true_iff.mp e).1) XL.keeps dLaw_of (by kernel_rfl) (by kernel_rfl) (fun s e => recFacts_of (Bool.and_eq_true_iff.mp e).2) (by kernel_rfl) said (by kernel_rfl) ⟨rfl, rfl, rfl, rfl, rfl, by decide +kernel⟩ law_prom ?_
  intro w s₀ s₁ mg mb GG Y a o pm cd doc dV kV ho hd hcd hD hmg hg args vals as hpre hlay hrd hwl hlo
  clear ho hd hcd hD
  have X : (kLaw w.params).In s₁.heap := km_in_of Y
  have e145 : s₁.heap.get? 145 = some (PySem.W.tabObj #[]) := km_tabs_of Y 145 (List.mem_singleton.mpr rfl)
  obtain ⟨g, e72, c72, ea⟩ := top_G (w := w) X GG.T (kLaw_chk _) (by kernel_rfl)
  have hmg' : mg (Str.ofString "law") = some (.ref a) := hmg
  have ha : (Value.ref a) = .ref 184 := Option.some.inj (hmg'.symm.trans ea)
  cases ha
  wrow_args hpre hlay hrd hwl hlo
  rename_i xs _ _ _ _ _ _ _ la lvs _ hL _ w1 _ hI hr' hlen _
  refine enter_call ?_
  refine codeAny_mono (law_ends (A := callerA) ⟨rfl, by decide, by decide⟩ g c72 e72 e145 hg w1 (by (first | lia | omega))) fun r s' q => ?_
  obtain ⟨rfl, hk, hos, hb⟩ := q
  refine ⟨.inl ⟨_, .bool true, [], rfl, raisesW_false (by wrow_none_raised), .bool true, by wrow_post, fun _ => ⟨List.nodup_nil, fun _ h => by cases h⟩⟩, hk, hos, hb⟩
end
