import PyProof.Rows.All
import Wide.All
import OpenK.AllK
import KE.BitLaws
import Wide.FinOn
import PySem.Challenge.RW_rl0012_01
open PySem PySem.W PyProof.Rows
set_option Elab.async false
namespace Mine

/-- plain Python data -/
inductive PV where
  | int (i : Int)
  | flt (b : UInt64)
  | str (x : Str)
  | bool (b : Bool)
  | list (l : List PV)
  | ref (a : Addr)

def Up (h h' : Heap) : Prop := ∀ b o, h.get? b = some o → h'.get? b = some o
theorem Up.refl (h : Heap) : Up h h := fun _ _ e => e
theorem Up.trans {a b c : Heap} (x : Up a b) (y : Up b c) : Up a c := fun q o e => y q o (x q o e)
mutual
/-- the value represents the data; each list of it lies at an address of K -/
def Rp (K : Addr → Prop) : PV → Value → Heap → Prop
  | .int i, v, _ => ∃ t, v = .int i t
  | .flt b, v, _ => ∃ t, v = .float b t
  | .str x, v, _ => ∃ t, v = .str x t
  | .bool b, v, _ => v = .bool b
  | .ref a, v, _ => v = .ref a
  | .list l, v, h => ∃ a its, v = .ref a ∧ K a ∧ h.PlainList a (its : List Value).toArray ∧ RpL K l its h
def RpL (K : Addr → Prop) : List PV → List Value → Heap → Prop
  | [], vs, _ => vs = []
  | p :: ps, vs, h => ∃ v vs', vs = v :: vs' ∧ Rp K p v h ∧ RpL K ps vs' h
end
mutual
theorem Rp.on {K K' : Addr → Prop} : ∀ {p : PV} {v : Value} {h h' : Heap}, Rp K p v h → (∀ b its, K b → h.PlainList b its → K' b ∧ h'.PlainList b its) → Rp K' p v h'
  | .int _, _, _, _, x, _ => by rw [Rp] at x ⊢; exact x
  | .flt _, _, _, _, x, _ => by rw [Rp] at x ⊢; exact x
  | .str _, _, _, _, x, _ => by rw [Rp] at x ⊢; exact x
  | .bool _, _, _, _, x, _ => by rw [Rp] at x ⊢; exact x
  | .ref _, _, _, _, x, _ => by rw [Rp] at x ⊢; exact x
  | .list _, _, _, _, x, k => by
    rw [Rp] at x ⊢
    obtain ⟨a, its, e, hK, hp, hl⟩ := x
    exact ⟨a, its, e, (k _ _ hK hp).1, (k _ _ hK hp).2, hl.on k⟩
theorem RpL.on {K K' : Addr → Prop} : ∀ {l : List PV} {vs : List Value} {h h' : Heap}, RpL K l vs h → (∀ b its, K b → h.PlainList b its → K' b ∧ h'.PlainList b its) → RpL K' l vs h'
  | [], _, _, _, x, _ => by rw [RpL] at x ⊢; exact x
  | _ :: _, _, _, _, x, k => by
    rw [RpL] at x ⊢
    obtain ⟨v, vs', e, hp, hl⟩ := x
    exact ⟨v, vs', e, hp.on k, hl.on k⟩
end
section
variable {K K' : Addr → Prop}
theorem pl_up {h h' : Heap} (k : Up h h') {b : Addr} {its : Array Value} (x : h.PlainList b its) : h'.PlainList b its := let ⟨n, e⟩ := x; ⟨n, k b _ e⟩
theorem Rp.up {p : PV} {v : Value} {h h' : Heap} (x : Rp K p v h) (k : Up h h') : Rp K p v h' := x.on fun _ _ hb hp => ⟨hb, pl_up k hp⟩
theorem RpL.up {p : List PV} {v : List Value} {h h' : Heap} (x : RpL K p v h) (k : Up h h') : RpL K p v h' := x.on fun _ _ hb hp => ⟨hb, pl_up k hp⟩
theorem Rp.mono {p : PV} {v : Value} {h : Heap} (x : Rp K p v h) (k : ∀ a, K a → K' a) : Rp K' p v h := x.on fun _ _ hb hp => ⟨k _ hb, hp⟩
theorem RpL.mono {p : List PV} {v : List Value} {h : Heap} (x : RpL K p v h) (k : ∀ a, K a → K' a) : RpL K' p v h := x.on fun _ _ hb hp => ⟨k _ hb, hp⟩
theorem RpL.nil (h : Heap) : RpL K [] [] h := by rw [RpL]
theorem RpL.cons {p : PV} {ps : List PV} {v : Value} {vs : List Value} {h : Heap} (a : Rp K p v h) (b : RpL K ps vs h) : RpL K (p :: ps) (v :: vs) h := by rw [RpL]; exact ⟨v, vs, rfl, a, b⟩
theorem RpL.inv_nil {vs : List Value} {h : Heap} (x : RpL K [] vs h) : vs = [] := by rw [RpL] at x; exact x
theorem RpL.inv {p : PV} {ps : List PV} {vs : List Value} {h : Heap} (x : RpL K (p :: ps) vs h) : ∃ v vs', vs = v :: vs' ∧ Rp K p v h ∧ RpL K ps vs' h := by rw [RpL] at x; exact x
theorem Rp.inv_int {i : Int} {v : Value} {h : Heap} (x : Rp K (.int i) v h) : ∃ t, v = .int i t := by rw [Rp] at x; exact x
theorem Rp.inv_flt {i : UInt64} {v : Value} {h : Heap} (x : Rp K (.flt i) v h) : ∃ t, v = .float i t := by rw [Rp] at x; exact x
theorem Rp.inv_str {i : Str} {v : Value} {h : Heap} (x : Rp K (.str i) v h) : ∃ t, v = .str i t := by rw [Rp] at x; exact x
theorem Rp.inv_bool {i : Bool} {v : Value} {h : Heap} (x : Rp K (.bool i) v h) : v = .bool i := by rw [Rp] at x; exact x
theorem Rp.inv_ref {a : Addr} {v : Value} {h : Heap} (x : Rp K (.ref a) v h) : v = .ref a := by rw [Rp] at x; exact x
theorem rp_ref (a : Addr) (h : Heap) : Rp K (.ref a) (.ref a) h := by rw [Rp]
theorem Rp.inv_list {l : List PV} {v : Value} {h : Heap} (x : Rp K (.list l) v h) : ∃ a its, v = .ref a ∧ K a ∧ h.PlainList a (its : List Value).toArray ∧ RpL K l its h := by rw [Rp] at x; exact x
theorem rp_int (i : Int) (t : Tok) (h : Heap) : Rp K (.int i) (.int i t) h := by rw [Rp]; exact ⟨t, rfl⟩
theorem rp_flt (i : UInt64) (t : Tok) (h : Heap) : Rp K (.flt i) (.float i t) h := by rw [Rp]; exact ⟨t, rfl⟩
theorem rp_str (i : Str) (t : Tok) (h : Heap) : Rp K (.str i) (.str i t) h := by rw [Rp]; exact ⟨t, rfl⟩
theorem rp_bool (i : Bool) (h : Heap) : Rp K (.bool i) (.bool i) h := by rw [Rp]
theorem rp_list {l : List PV} {a : Addr} {its : List Value} {h : Heap} (hK : K a) (hp : h.PlainList a its.toArray) (hl : RpL K l its h) : Rp K (.list l) (.ref a) h := by rw [Rp]; exact ⟨a, its, rfl, hK, hp, hl⟩
theorem RpL.snoc : ∀ {l : List PV} {vs : List Value} {p : PV} {v : Value} {h : Heap}, RpL K l vs h → Rp K p v h → RpL K (l ++ [p]) (vs ++ [v]) h
  | [], _, _, _, _, x, y => by rw [x.inv_nil]; exact .cons y (.nil _)
  | _ :: _, _, _, _, _, x, y => by obtain ⟨v, vs', rfl, a, b⟩ := x.inv; exact .cons a (b.snoc y)
theorem RpL.length : ∀ {l : List PV} {vs : List Value} {h : Heap}, RpL K l vs h → vs.length = l.length
  | [], _, _, x => by rw [x.inv_nil]; rfl
  | _ :: _, _, _, x => by obtain ⟨v, vs', rfl, _, b⟩ := x.inv; simp [b.length]
theorem RpL.get : ∀ {l : List PV} {vs : List Value} {h : Heap} {i : Nat} {v : Value}, RpL K l vs h → vs[i]? = some v → ∃ p, l[i]? = some p ∧ Rp K p v h
  | [], _, _, _, _, x, e => by rw [x.inv_nil] at e; simp at e
  | p :: ps, _, _, 0, _, x, e => by obtain ⟨v, vs', rfl, a, _⟩ := x.inv; simp at e; subst e; exact ⟨p, rfl, a⟩
  | p :: ps, _, _, i + 1, _, x, e => by obtain ⟨v, vs', rfl, _, b⟩ := x.inv; simp at e; obtain ⟨q, e', r⟩ := b.get e; exact ⟨q, by simpa using e', r⟩
theorem RpL.get' : ∀ {l : List PV} {vs : List Value} {h : Heap} {i : Nat} {p : PV}, RpL K l vs h → l[i]? = some p → ∃ v, vs[i]? = some v ∧ Rp K p v h
  | [], _, _, _, _, x, e => by simp at e
  | p :: ps, _, _, 0, _, x, e => by obtain ⟨v, vs', rfl, a, _⟩ := x.inv; simp at e; subst e; exact ⟨v, rfl, a⟩
  | p :: ps, _, _, i + 1, _, x, e => by obtain ⟨v, vs', rfl, _, b⟩ := x.inv; simp at e; obtain ⟨q, e', r⟩ := b.get' e; exact ⟨q, by simpa using e', r⟩
end

theorem kp_refl (s : Shared) : Keeps s s := ⟨s.heap, s.toks, rfl, fun _ _ e => e⟩
theorem kp_trans {a b c : Shared} (x : Keeps a b) (y : Keeps b c) : Keeps a c := by
  obtain ⟨h, t, rfl, k⟩ := x
  obtain ⟨h', t', rfl, k'⟩ := y
  exact ⟨h', t', rfl, fun q o e => k' q o (k q o e)⟩
theorem kp_up {a b : Shared} (x : Keeps a b) : Up a.heap b.heap := by obtain ⟨h, t, rfl, k⟩ := x; exact k
theorem kp_tok (s : Shared) (t : Nat) : Keeps s { s with toks := t } := ⟨s.heap, t, rfl, fun _ _ e => e⟩
theorem kp_mk {s : Shared} {h : Heap} {t : Nat} (k : Up s.heap h) : Keeps s { s with heap := h, toks := t } := ⟨h, t, rfl, k⟩
theorem kp_push (s : Shared) (o : Obj) : Keeps s { s with heap := s.heap.push o } := ⟨_, s.toks, rfl, fun _ _ e => Heap.get?_push_of_some _ e⟩

/-- an address that was allowed, or is new since s' -/
def Nw (Y : Addr → Prop) (s' : Shared) (a : Addr) : Prop := Y a ∨ s'.heap.get? a = none
theorem Nw.of_keeps {Y : Addr → Prop} {s' s'' : Shared} (k : Keeps s' s'') {a : Addr} (x : Nw Y s'' a) : Nw Y s' a := by
  rcases x with x | x
  · exact .inl x
  · right
    cases e : s'.heap.get? a with
    | none => rfl
    | some o => rw [kp_up k _ _ e] at x; cases x
abbrev Post := (Addr → Prop) → Value → Heap → Prop
/-- a post that lives on: the heap may grow, the addresses may widen -/
def Post.Ok (P : Post) : Prop := ∀ K K' v h h', P K v h → (∀ a, K a → K' a) → Up h h' → P K' v h'
theorem Rp.ok (p : PV) : Post.Ok (fun K => Rp K p) := fun _ _ _ _ _ x k u => (x.mono k).up u
section
variable (prog : Program) (w : World)
/-- from any later state the expression comes out with P, and keeps what stood -/
def Ev (A : Around) (env : Env) (s : Shared) (Y : Addr → Prop) (e : Expr) (P : Post) : Prop :=
  ∀ (s' : Shared) (E : Value → Shared → Prop) (Q : Value → Shared → Prop), Keeps s s' → (∀ v s'', Keeps s' s'' → P (Nw Y s') v s''.heap → Q v s'') → wpAny (model prog w) A (eval e env) Q E s'
/-- the same of a test -/
def Tst (A : Around) (env : Env) (s : Shared) (e : Expr) (b : Bool) : Prop :=
  ∀ (s' : Shared) (E : Value → Shared → Prop) (Q : Bool → Shared → Prop), Keeps s s' → (∀ s'', Keeps s' s'' → Q b s'') → wpAny (model prog w) A (isTrue e env (eval e env)) Q E s'
def Tsts (A : Around) (env : Env) (s : Shared) (ifs : List Expr) (b : Bool) : Prop :=
  ∀ (s' : Shared) (E : Value → Shared → Prop) (Q : Bool → Shared → Prop), Keeps s s' → (∀ s'', Keeps s' s'' → Q b s'') →
    wpAny (model prog w) A (forIn ifs true fun c r => if r = true then do let ok ← isTrue c env (eval c env); pure (ForInStep.yield ok) else pure (ForInStep.yield r)) Q E s'
end
section
variable {prog : Program} {w : World} {A : Around} {env : Env} {s : Shared} {Y : Addr → Prop}
theorem Ev.keeps {e : Expr} {P : Post} {s₁ : Shared} (x : Ev prog w A env s Y e P) (k : Keeps s s₁) : Ev prog w A env s₁ Y e P := fun s' E Q k' h => x s' E Q (kp_trans k k') h
theorem Tst.keeps {e : Expr} {b : Bool} {s₁ : Shared} (x : Tst prog w A env s e b) (k : Keeps s s₁) : Tst prog w A env s₁ e b := fun s' E Q k' h => x s' E Q (kp_trans k k') h
theorem tsts_nil : Tsts prog w A env s [] true := fun s' _ _ _ h => wpAny_tests_nil (h s' (kp_refl _))
theorem tsts_one {c : Expr} {b : Bool} (x : Tst prog w A env s c b) : Tsts prog w A env s [c] b := fun s' E Q k h => wpAny_tests_one (x s' E Q k h)
theorem Ev.imp {e : Expr} {P P' : Post} (x : Ev prog w A env s Y e P) (h : ∀ K v h, P K v h → P' K v h) : Ev prog w A env s Y e P' := fun s' E Q k q => x s' E Q k fun v s'' k' p => q v s'' k' (h _ _ _ p)

/-- the slot of a loop's name -/
def Slot (env : Env) (x : Str) (T : Addr) (h : Heap) (ov : Option Value) : Prop :=
  (env.kindOf x = some .local ∧ T = env.locals ∧ ∃ m, h.Ns T m ∧ m x = ov) ∨ (env.kindOf x = some .cell ∧ env.cells.lookup x = some T ∧ h.IsCell T ov)
theorem Slot.at {x : Str} {T : Addr} {h h' : Heap} {ov : Option Value} (S : Slot env x T h ov) (k : ∀ o, h.get? T = some o → h'.get? T = some o) : Slot env x T h' ov := by
  rcases S with ⟨a, b, m, hn, e⟩ | ⟨a, b, o, ho, hd⟩
  · exact .inl ⟨a, b, m, hn.at' k, e⟩
  · exact .inr ⟨a, b, o, k _ ho, hd⟩
theorem Slot.store {x : Str} {px : Pos} {T : Addr} {ov : Option Value} {v : Value} {E : Value → Shared → Prop} {Q : Unit → Shared → Prop} (hk : env.scope.kind = .function) (S : Slot env x T s.heap ov)
    (h : ∀ h' tk, Slot env x T h' (some v) → Heap.SameBut T s.heap h' → s.toks ≤ tk → Q () { s with heap := h', toks := tk }) : wpAny (model prog w) A (assign (.Name x px) env v) Q E s := by
  refine wpAny_assign_Name ?_
  rcases S with ⟨a, rfl, m, hn, e⟩ | ⟨a, b, c⟩
  · refine wpAny_storeName_local a hn (fun h' hn' hs' => h h' _ (.inl ⟨a, rfl, _, hn', by simp⟩) hs' (Nat.le_succ _)) ?_
    rw [hk]; rfl
  · exact wpAny_storeName_cell hk a b c fun h' hc' hs' => h h' s.toks (.inr ⟨a, b, hc'⟩) hs' (Nat.le_refl _)
end
end Mine
namespace Mine
section
variable {prog : Program} {w : World} {A : Around} {env : Env}

theorem fr_snoc {α : Type} (p : Nat → Bool) (f : Nat → α) (n : Nat) : ((List.range (n + 1)).filter p).map f = ((List.range n).filter p).map f ++ (if p n = true then [f n] else []) := by
  rw [List.range_succ, List.filter_append, List.map_append]
  cases hp : p n <;> simp [hp]
theorem filter_len (p : Nat → Bool) (i : Nat) : ((List.range i).filter p).length ≤ i := by
  have := List.length_filter_le p (List.range i); simpa using this

theorem comp_loop {elt iter : Expr} {x : Str} {px : Pos} {ifs : List Expr} {scope : Scope} {pos : Pos} {I D T : Addr} {fp wr : List Addr} {n : Nat} {P : Nat → Value → Prop} {St : Nat → Heap → Prop}
    {cenv : Env} {R : Result → Shared → Prop} {ov : Option Value} {m : Str → Option Value} {s sB : Shared} {Y : Addr → Prop}
    (W : Walks prog w A I fp wr n P St) (hkf : cenv.scope.kind = .function) (hY : ∀ a, Y a → (sB.heap.get? a).isSome = true)
    (hD : sB.heap.get? D = none) (hT : sB.heap.get? T = none) (hwr : ∀ b ∈ wr, sB.heap.get? b = none)
    (hDT : D ≠ T) (hDf : D ∉ fp) (hTf : T ∉ fp) (hCf : cenv.locals ∉ fp)
    (hwrS : ∀ i h, St i h → ∀ b ∈ wr, (h.get? b).isSome = true)
    (hsB : ∃ h₀ t₀, s = { sB with heap := h₀, toks := t₀ } ∧ Up sB.heap h₀)
    (hst : St 0 s.heap) (hacc : s.heap.PlainList D #[]) (hsl : Slot cenv x T s.heap ov) (hn : s.heap.Ns cenv.locals m)
    (hDC : D ≠ cenv.locals)
    (l : List PV) (hP : ∀ i v h, i < n → P i v → Up sB.heap h → ∃ pv, l[i]? = some pv ∧ Rp Y pv v h)
    (p : Nat → Bool) (f : Nat → PV)
    (hturn : ∀ i pv v s₃, l[i]? = some pv → Rp Y pv v s₃.heap → Slot cenv x T s₃.heap (some v) → Keeps sB s₃ →
      Tsts prog w A cenv s₃ ifs (p i) ∧ (p i = true → Ev prog w A cenv s₃ Y elt (fun K => Rp K (f i))))
    (hR : ∀ h' tk (ys : List Value) m', RpL (Nw Y sB) (((List.range n).filter p).map f) ys h' → h'.PlainList D ys.toArray → h'.Ns cenv.locals m' → Up sB.heap h' → R (.ok .next) { sB with heap := h', toks := tk })
    (hsz : n ≤ sizeLine) :
    codeAny (model prog w) A (.compLoop (.ListComp elt [⟨.Name x px, iter, ifs, 0⟩] scope pos) 0 (.ref I) (.ref D) cenv) R s := by
  have hTw : T ∉ wr := fun h => hTf (W.sub _ h)
  have hCw : cenv.locals ∉ wr := fun h => hCf (W.sub _ h)
  have hDw : D ∉ wr := fun h => hDf (W.sub _ h)
  -- the addresses of what is done
  let Kd : Addr → Prop := fun a => Nw Y sB a ∧ a ≠ D ∧ a ≠ T ∧ a ∉ wr
  refine codeAny_compLoop_tests
    (fun k s' => ∃ i h' tk ov' m' ys, s' = { sB with heap := h', toks := tk } ∧ i ≤ n ∧ k = n + 1 - i ∧ St i h' ∧ h'.PlainList D (ys : List Value).toArray ∧ Slot cenv x T h' ov' ∧ h'.Ns cenv.locals m' ∧
      RpL Kd (((List.range i).filter p).map f) ys h' ∧ Up sB.heap h') ?_ (n + 1) ?_
  · rintro k s' ⟨i, h, tk, ov', m', ys, rfl, hin, rfl, hst', hacc', hsl', hn', hL, hup⟩
    by_cases hlt : i < n
    · refine W.item i _ _ _ hlt hst' fun v h₁ tk₁ hPv hst₁ hk₁ => ?_
      have up₁ : Up sB.heap h₁ := fun b o e => hk₁ b o (fun hb => by rw [hwr b hb] at e; cases e) (hup b o e)
      dsimp only at hk₁ ⊢
      refine Slot.store hkf (hsl'.at fun o e => hk₁ T o hTw e) fun h₂ tk₂ hsl₂ hs₂ htk₂ => ?_
      dsimp only at hs₂
      have up₂ : Up sB.heap h₂ := fun b o e => hs₂.extBut b o (fun hb => by rw [hb, hT] at e; cases e) (up₁ b o e)
      have hst₂ : St (i + 1) h₂ := W.frame _ _ _ hst₁ fun b hb o e => hs₂.extBut b o (fun h => hTf (h ▸ hb)) e
      have hacc₂ : h₂.PlainList D ys.toArray := hacc'.at fun o e => hs₂.extBut D o hDT (hk₁ D o hDw e)
      have hn₂ : ∃ m₂, h₂.Ns cenv.locals m₂ := by
        by_cases hTC : T = cenv.locals
        · rcases hsl₂ with ⟨_, _, m₂, hm₂, _⟩ | ⟨kc, _, o, ho, hd⟩
          · exact ⟨m₂, hTC ▸ hm₂⟩
          · exfalso
            rcases hsl' with ⟨kl, _⟩ | ⟨_, _, o', ho', hd'⟩
            · rw [kl] at kc; cases kc
            · obtain ⟨oc', es', ep', hoc', hdc', _⟩ := hn'
              rw [← hTC, ho'] at hoc'; cases hoc'; rw [hd'] at hdc'; cases hdc'
        · exact ⟨m', (hn'.at' fun o e => hk₁ _ o hCw e).at' fun o e => hs₂.extBut _ o (Ne.symm hTC) e⟩
      obtain ⟨m₂, hm₂⟩ := hn₂
      obtain ⟨pv, hpv, hrp⟩ := hP i v h₂ hlt hPv up₂
      have kB : Keeps sB { sB with heap := h₂, toks := tk₂ } := kp_mk up₂
      obtain ⟨ht, he⟩ := hturn i pv v _ hpv hrp hsl₂ kB
      have hL₂ : RpL Kd (((List.range i).filter p).map f) ys h₂ := hL.on fun b its hb hq =>
        ⟨hb, let ⟨c, e⟩ := hq; ⟨c, hs₂.extBut b _ hb.2.2.1 (hk₁ b _ hb.2.2.2 e)⟩⟩
      refine ht _ _ _ (kp_refl _) fun s₃ k₃ => ?_
      obtain ⟨h₃, tk₃, rfl, hk₃⟩ := k₃
      dsimp only at hk₃
      have hst₃ : St (i + 1) h₃ := W.frame _ _ _ hst₂ fun b _ o e => hk₃ b o e
      cases hpi : p i with
      | false =>
        simp only [Bool.false_eq_true, if_false]
        refine ⟨n + 1 - (i + 1), by omega, i + 1, h₃, tk₃, some v, m₂, ys, rfl, hlt, rfl, hst₃, hacc₂.at fun o e => hk₃ _ o e, hsl₂.at fun o e => hk₃ _ o e, hm₂.at' fun o e => hk₃ _ o e, ?_, up₂.trans hk₃⟩
        rw [fr_snoc, hpi]
        simpa using hL₂.up hk₃
      | true =>
        simp only [if_true]
        refine he hpi _ _ _ (kp_mk (s := { sB with heap := h₂, toks := tk₂ }) hk₃) fun y s₄ k₄ hy => ?_
        obtain ⟨h₄, tk₄, rfl, hk₄⟩ := k₄
        dsimp only at hk₄ hy
        have up₄ : Up h₂ h₄ := fun b o e => hk₄ b o (hk₃ b o e)
        have hacc₄ : h₄.PlainList D ys.toArray := hacc₂.at fun o e => up₄ _ o e
        have hlen : ys.toArray.size ≤ sizeLine := by
          have e1 := hL.length
          rw [List.length_map] at e1
          have e2 := filter_len p i
          simp only [List.size_toArray]
          omega
        have hyK : Rp Kd (f i) y h₄ := hy.mono fun a ha => by
          have isS : ∀ o, h₃.get? a = some o → a ≠ a → False := fun _ _ h => h rfl
          rcases ha with ha | ha
          · have hs := hY a ha
            have ne : ∀ b, sB.heap.get? b = none → a ≠ b := fun b hb e => by rw [e, hb] at hs; cases hs
            exact ⟨.inl ha, ne D hD, ne T hT, fun hm => ne a (hwr a hm) rfl⟩
          · have ha' : h₃.get? a = none := ha
            have ne : ∀ b, (h₃.get? b).isSome = true → a ≠ b := fun b hb e => by rw [← e, ha'] at hb; cases hb
            refine ⟨.inr ?_, ne D ?_, ne T ?_, fun hm => ne a (hwrS _ _ hst₃ a hm) rfl⟩
            · cases e : sB.heap.get? a with
              | none => rfl
              | some o => rw [(up₂.trans hk₃) a o e] at ha'; cases ha'
            · obtain ⟨c, e⟩ := hacc₂; rw [hk₃ _ _ e]; rfl
            · rcases hsl₂ with ⟨_, _, m₃, ⟨o, es, ep, ho, _⟩, _⟩ | ⟨_, _, o, ho, _⟩ <;> (rw [hk₃ _ _ ho]; rfl)
        refine wpAny_list_append_plain (hsz := hlen) hacc₄ fun h₅ hl₅ hs₅ => ?_
        dsimp only at hs₅
        refine ⟨n + 1 - (i + 1), by omega, i + 1, h₅, tk₄, some v, m₂, ys ++ [y], rfl, hlt, rfl, ?_, ?_, ?_, ?_, ?_, ?_⟩
        · exact W.frame _ _ h₅ hst₃ fun b hb o e => hs₅.extBut b o (fun h => hDf (h ▸ hb)) (hk₄ b o e)
        · simpa using hl₅
        · exact hsl₂.at fun o e => hs₅.extBut _ o (Ne.symm hDT) (up₄ _ o e)
        · exact hm₂.at' fun o e => hs₅.extBut _ o (Ne.symm hDC) (up₄ _ o e)
        · rw [fr_snoc, hpi]
          simp only [if_true]
          have hs : ∀ (b : Addr) its, Kd b → h₄.PlainList b its → Kd b ∧ h₅.PlainList b its := fun b its hb hq => ⟨hb, let ⟨c, e⟩ := hq; ⟨c, hs₅.extBut b _ hb.2.1 e⟩⟩
          exact ((hL₂.up up₄).on hs).snoc (hyK.on hs)
        · exact fun b o e => hs₅.extBut b o (fun hb => by rw [hb, hD] at e; cases e) (up₄ b o (up₂ b o e))
    · have hi : i = n := by omega
      subst hi
      refine W.done _ _ _ hst' fun h₁ tk₁ hk₁ => ?_
      dsimp only at hk₁ ⊢
      refine hR h₁ tk₁ ys m' (hL.on fun b its hb hq => ⟨hb.1, let ⟨c, e⟩ := hq; ⟨c, hk₁ b _ hb.2.2.2 e⟩⟩) (hacc'.at fun o e => hk₁ _ o hDw e) (hn'.at' fun o e => hk₁ _ o hCw e) fun b o e => hk₁ b o (fun hb => by rw [hwr b hb] at e; cases e) (hup b o e)
  · obtain ⟨h₀, t₀, rfl, hup⟩ := hsB
    exact ⟨0, h₀, t₀, ov, m, [], rfl, Nat.zero_le _, rfl, hst, hacc, hsl, hn, by simpa using RpL.nil _, hup⟩
end
end Mine
namespace Mine
section
variable {prog : Program} {w : World} {A : Around} {env : Env} {s : Shared}

/-- what a for or a comprehension may walk: a list, or range(n) -/
def IterOf (l : List PV) (K : Addr → Prop) (v : Value) (h : Heap) : Prop :=
  Rp K (.list l) v h ∨ ∃ r n t u z, v = .ref r ∧ IsRange h r 0 (n : Nat) 1 t u z ∧ l = (List.range n).map (fun (i : Nat) => PV.int i) ∧ n ≤ 1000

theorem rs_of (n : Nat) : Builtin.Range.rangeSize 0 n 1 = n := by
  unfold Builtin.Range.rangeSize
  simp only [show (1 : Int) > 0 from by decide, if_true]
  by_cases h : (0 : Int) < n
  · rw [if_pos h]; omega
  · rw [if_neg h]; omega
theorem small_of (n : Nat) (h : n ≤ 1000) : Builtin.Range.small 0 n 1 = true := by
  unfold Builtin.Range.small
  rw [rs_of]
  have e : ∀ k : Int, 0 ≤ k → k ≤ 2000 → Builtin.Range.rangeFitsLong k = true := by
    intro k h0 h1
    unfold Builtin.Range.rangeFitsLong
    simp only [Bool.and_eq_true, decide_eq_true_eq]
    omega
  simp only [show (1 : Int) > 0 from by decide, if_true, e 0 (by omega) (by omega), e n (by omega) (by omega), e 1 (by omega) (by omega), e (n + (1 - 1)) (by omega) (by omega), Bool.or_true, Bool.and_self]

theorem iter_walk (hh : A.handled = none) {l : List PV} {K : Addr → Prop} {v : Value} {Q : Value → Shared → Prop} {E : Value → Shared → Prop} (hi : IterOf l K v s.heap)
    (h : ∀ I fp wr P St (h' : Heap), Walks prog w A I fp wr l.length P St → St 0 h' → (∀ b ∈ fp, b < h'.objs.size) → (∀ b ∈ wr, s.heap.get? b = none) → (∀ i h, St i h → ∀ b ∈ wr, ∃ o vs, h.get? b = some o ∧ o.data = .fields vs) → (∀ b ∈ fp, s.heap.get? b = none ∨ (K b ∧ ∃ its, s.heap.PlainList b its)) → Up s.heap h' →
      (∀ i v h'', i < l.length → P i v → Up s.heap h'' → ∃ pv, l[i]? = some pv ∧ Rp K pv v h'') → Q (.ref I) { s with heap := h' }) : wpAny (model prog w) A (pyIter v) Q E s := by
  have fresh : s.heap.get? s.heap.objs.size = none := Heap.get?_none_of_le (Nat.le_refl _)
  rcases hi with hi | ⟨r, n, t, u, z, rfl, hr, rfl, hn⟩
  · obtain ⟨a, its, rfl, hK, hp, hL⟩ := hi.inv_list
    have hlt : a < s.heap.objs.size := let ⟨c, e⟩ := hp; Heap.lt_size e
    refine wpAny_pyIter_list hp.isList ?_
    have W := Walks.list (prog := prog) (w := w) hh s.heap.objs.size a (Nat.ne_of_lt hlt) its.toArray
    rw [show its.toArray.size = l.length from by rw [List.size_toArray, hL.length]] at W
    have kp : Up s.heap (s.heap.push { cls := .type "list_iterator", data := .fields #[.ref a, .int 0 0] }) := fun b o e => Heap.get?_push_of_some _ e
    refine h _ _ _ _ _ _ W ⟨⟨_, Heap.get?_push_size _ rfl, rfl, rfl⟩, hp.isList.at fun o e => kp _ _ e⟩ ?_ ?_ ?_ ?_ kp ?_
    · intro b hb
      rw [Heap.size_push]
      simp only [List.mem_cons, List.not_mem_nil, or_false] at hb
      rcases hb with rfl | rfl
      · exact Nat.lt_succ_self _
      · exact Nat.lt_succ_of_lt hlt
    · intro b hb
      simp only [List.mem_cons, List.not_mem_nil, or_false] at hb
      rw [hb]; exact fresh
    · intro i h ⟨⟨o, ho, _, hd⟩, _⟩ b hb
      simp only [List.mem_cons, List.not_mem_nil, or_false] at hb
      exact ⟨o, _, by rw [hb]; exact ho, hd⟩
    · intro b hb
      simp only [List.mem_cons, List.not_mem_nil, or_false] at hb
      rcases hb with rfl | rfl
      · exact .inl fresh
      · exact .inr ⟨hK, _, hp⟩
    · intro i v h'' _ hv hu
      obtain ⟨pv, e, hr⟩ := hL.get (i := i) (v := v) (by simpa using hv)
      exact ⟨pv, e, hr.up hu⟩
  · refine wpAny_pyIter_range hr (small_of n hn) ?_
    rw [rs_of]
    have W := Walks.range (prog := prog) (w := w) hh s.heap.objs.size 0 1 n
    have hl : ((List.range n).map (fun (i : Nat) => PV.int i)).length = n := by simp
    have kp : Up s.heap (s.heap.push { cls := .type "range_iterator", data := .fields #[rawInt 0, rawInt n, rawInt 1] }) := fun b o e => Heap.get?_push_of_some _ e
    refine h _ _ _ _ _ _ (by rw [hl]; exact W) ?_ ?_ ?_ ?_ ?_ kp ?_
    · have := Heap.get?_push_size s.heap (o := { cls := .type "range_iterator", data := .fields #[rawInt 0, rawInt n, rawInt 1] }) rfl
      simpa [IsRangeIter] using this
    · intro b hb
      rw [Heap.size_push]
      simp only [List.mem_cons, List.not_mem_nil, or_false] at hb
      rw [hb]; exact Nat.lt_succ_self _
    · intro b hb
      simp only [List.mem_cons, List.not_mem_nil, or_false] at hb
      rw [hb]; exact fresh
    · intro i h ho b hb
      simp only [List.mem_cons, List.not_mem_nil, or_false] at hb
      exact ⟨_, _, by rw [hb]; exact ho, rfl⟩
    · intro b hb
      simp only [List.mem_cons, List.not_mem_nil, or_false] at hb
      rw [hb]; exact .inl fresh
    · intro i v h'' hlt hv _
      rw [hl] at hlt
      obtain ⟨t, rfl⟩ := hv
      refine ⟨.int i, by simp [hlt], ?_⟩
      have := rp_int (K := K) (0 + (i : Int) * 1) t h''
      simpa using this
end
end Mine
namespace Mine
section
variable {prog : Program} {w : World} {A : Around} {env : Env} {s : Shared}
def cellNone : Obj := { cls := .type "cell", data := .cell none }
/-- the loop's name is a plain local, or the comprehension's one cell -/
def CompCells (scope : Scope) (env : Env) (x : Str) : Prop :=
  ((∀ n acc, cellsFrom n scope.names acc = acc) ∧ (∀ h, pushCells h scope.names = h) ∧ (relabel scope env).names.lookup x = some .local) ∨
  ((∀ n acc, cellsFrom n scope.names acc = (x, n) :: acc) ∧ (∀ h, pushCells h scope.names = h.push cellNone) ∧ (relabel scope env).names.lookup x = some .cell)

theorem newEnv_comp {M : Model} {E : Value → Shared → Prop} {scope : Scope} {cl : List (Str × Addr)} {Q : Env → Shared → Prop}
    (h : Q (newEnv scope s.heap.objs.size env.globals (cellsFrom (s.heap.objs.size + 1) scope.names cl) env.qual none .none (some env) builtinsNs)
      { s with heap := pushCells (s.heap.push { cls := .type "dict", data := .dict #[] }) scope.names }) :
    wpAny M A (newFunctionEnv scope env.globals cl [] env.qual none .none (some env)) Q E s := by
  simp only [newFunctionEnv, Option.isSome_some, if_true]
  refine wpAny_bind (wpAny_alloc ?_)
  refine wpAny_bind (wpAny_layCells _ (fun name kind cells => by cases hkc : kind == NameKind.cell <;> simp [hkc]) _ _ _ _ ?_)
  rw [show ({ s with heap := s.heap.push { cls := .type "dict", data := .dict #[] } } : Shared).heap.objs.size = s.heap.objs.size + 1 from Heap.size_push ..]
  exact wpAny_bind (wpAny_pure (wpAny_pure h))

theorem comp_block {elt iter : Expr} {x : Str} {px : Pos} {ifs : List Expr} {scope : Scope} {cl : List (Str × Addr)} {pos : Pos} {Y : Addr → Prop} {l : List PV} {xv : Value} {E : Value → Shared → Prop}
    {RR : Value → Addr → Result → Shared → Prop} (hh : A.handled = none) (hkind : scope.kind = .function) (hY : ∀ a, Y a → (s.heap.get? a).isSome = true) (hi : IterOf l Y xv s.heap) (hlen : l.length ≤ sizeLine)
    (hc : CompCells scope env x) (p : Nat → Bool) (f : Nat → PV)
    (hturn : ∀ C i pv v s₃ T, l[i]? = some pv → Rp Y pv v s₃.heap → Slot (compEnvC scope (cellsFrom (C + 1) scope.names cl) C env) x T s₃.heap (some v) → Keeps s s₃ →
      Tsts prog w A (compEnvC scope (cellsFrom (C + 1) scope.names cl) C env) s₃ ifs (p i) ∧ (p i = true → Ev prog w A (compEnvC scope (cellsFrom (C + 1) scope.names cl) C env) s₃ Y elt (fun K => Rp K (f i))))
    (hRR : ∀ D C h' tk (ys : List Value) m', s.heap.get? D = none → s.heap.get? C = none → D ≠ C → RpL (Nw Y s) (((List.range l.length).filter p).map f) ys h' → h'.PlainList D ys.toArray → h'.Ns C m' → Up s.heap h' →
      RR (.ref D) C (.ok .next) { s with heap := h', toks := tk }) :
    wpAny (model prog w) A (pyIter xv) (fun it s₂ => wpAny (model prog w) A (newList []) (fun acc s₃ => wpAny (model prog w) A (newFunctionEnv scope env.globals cl [] env.qual none .none (some env)) (fun cenv s₄ =>
      codeAny (model prog w) A (.compStart (.ListComp elt [⟨.Name x px, iter, ifs, 0⟩] scope pos) 0 it acc { cenv with scope := relabel scope env }) (RR acc cenv.locals) s₄) E s₃) E s₂) E s := by
  refine iter_walk hh hi fun I fp wr P St h₂ W hst hfp hwr hwrS0 _ up₂ hP => ?_
  have hwrS : ∀ i h, St i h → ∀ b ∈ wr, (h.get? b).isSome = true := fun i h hs b hb => by obtain ⟨o, vs, e, _⟩ := hwrS0 i h hs b hb; rw [e]; rfl
  refine wpAny_newObj_type (newEnv_comp ?_)
  dsimp only
  generalize hH3 : h₂.push { cls := .type "list", dict := none, data := .seq ([] : List Value).toArray } = H3
  have e3 : H3.objs.size = h₂.objs.size + 1 := by rw [← hH3, Heap.size_push]
  generalize hH4 : pushCells (H3.push { cls := .type "dict", data := .dict #[] }) scope.names = H4
  have up3 : Up h₂ H3 := fun b o e => hH3 ▸ Heap.get?_push_of_some _ e
  have up4 : Up H3 H4 := fun b o e => hH4 ▸ pushCells_keeps _ _ b o (Heap.get?_push_of_some _ e)
  have upA : Up s.heap H4 := (up₂.trans up3).trans up4
  have none2 : ∀ a, h₂.objs.size ≤ a → s.heap.get? a = none := fun a ha => by
    cases e : s.heap.get? a with
    | none => rfl
    | some o => exact absurd (Heap.lt_size (up₂ _ _ e)) (Nat.not_lt.mpr ha)
  have notin : ∀ a, h₂.objs.size ≤ a → a ∉ fp := fun a ha hm => Nat.lt_irrefl _ (Nat.lt_of_lt_of_le (hfp a hm) ha)
  have hacc : H4.PlainList h₂.objs.size #[] := ⟨_, up4 _ _ (hH3 ▸ Heap.get?_push_size _ rfl)⟩
  have hns : H4.Ns H3.objs.size (fun _ => none) := by
    have := (Heap.Ns.new H3 (.type "dict")).keeps (pushCells_keeps scope.names _)
    rw [hH4] at this; exact this
  have hst4 : St 0 H4 := W.frame _ _ _ hst fun b _ o e => up4 _ _ (up3 _ _ e)
  have hle : h₂.objs.size ≤ H3.objs.size := by rw [e3]; exact Nat.le_succ _
  have hDC : h₂.objs.size ≠ H3.objs.size := by rw [e3]; exact Nat.ne_of_lt (Nat.lt_succ_self _)
  have loop : codeAny (model prog w) A (.compLoop (.ListComp elt [⟨.Name x px, iter, ifs, 0⟩] scope pos) 0 (.ref I) (.ref h₂.objs.size) (compEnvC scope (cellsFrom (H3.objs.size + 1) scope.names cl) H3.objs.size env))
      (RR (.ref h₂.objs.size) H3.objs.size) { s with heap := H4 } := by
    have core : ∀ T, h₂.objs.size ≤ T → h₂.objs.size ≠ T → Slot (compEnvC scope (cellsFrom (H3.objs.size + 1) scope.names cl) H3.objs.size env) x T H4 none →
        codeAny (model prog w) A (.compLoop (.ListComp elt [⟨.Name x px, iter, ifs, 0⟩] scope pos) 0 (.ref I) (.ref h₂.objs.size) (compEnvC scope (cellsFrom (H3.objs.size + 1) scope.names cl) H3.objs.size env))
          (RR (.ref h₂.objs.size) H3.objs.size) { s with heap := H4 } := by
      intro T hT hDT hsl
      refine comp_loop (sB := s) (T := T) W (by simp [compEnvC, relabel, hkind]) hY (none2 _ (Nat.le_refl _)) (none2 _ hT) hwr hDT (notin _ (Nat.le_refl _)) (notin _ hT) (notin _ hle) hwrS ⟨H4, s.toks, rfl, upA⟩ hst4 hacc hsl hns hDC l hP p f
        (fun i pv v s₃ e hr hs k => hturn _ i pv v s₃ T e hr hs k) (fun h' tk ys m' hL hp hn hu => hRR _ _ h' tk ys m' (none2 _ (Nat.le_refl _)) (none2 _ hle) hDC hL hp hn hu) hlen
    rcases hc with ⟨hc1, hc2, hk⟩ | ⟨hc1, hc2, hk⟩
    · exact core H3.objs.size hle hDC (.inl ⟨hk, rfl, _, hns, rfl⟩)
    · refine core (H3.objs.size + 1) (Nat.le_succ_of_le hle) (by rw [e3]; exact Nat.ne_of_lt (Nat.lt_succ_of_lt (Nat.lt_succ_self _))) (.inr ⟨hk, ?_, ?_⟩)
      · show List.lookup x (cellsFrom (H3.objs.size + 1) scope.names cl) = _
        rw [hc1]; simp
      · rw [hc2] at hH4
        refine ⟨cellNone, ?_, rfl⟩
        rw [← hH4]
        have := Heap.get?_push_size (H3.push { cls := .type "dict", data := .dict #[] }) (o := cellNone) rfl
        rw [Heap.size_push] at this
        exact this
  exact codeAny_compStart_list loop (W.self 0 _ _ _ hst4 loop)

/-- the addresses a comprehension's inner side may name -/
def Yin (Y : Addr → Prop) (s' s₁ : Shared) (a : Addr) : Prop := Nw Y s' a ∧ (s₁.heap.get? a).isSome = true
theorem iter_in {Y : Addr → Prop} {s' s₁ : Shared} {l : List PV} {xv : Value} (h : IterOf l (Nw Y s') xv s₁.heap) : IterOf l (Yin Y s' s₁) xv s₁.heap := by
  rcases h with h | h
  · exact .inl (h.on fun b its hb hp => ⟨⟨hb, by obtain ⟨n, e⟩ := hp; rw [e]; rfl⟩, hp⟩)
  · exact .inr h
theorem nw_in {Y : Addr → Prop} {s' s₁ : Shared} (k : Keeps s' s₁) {a : Addr} (h : Nw (Yin Y s' s₁) s₁ a) : Nw Y s' a := by
  rcases h with h | h
  · exact h.1
  · exact (Nw.of_keeps k (.inr h : Nw Y s₁ a))

theorem ev_comp {elt iter : Expr} {x : Str} {px : Pos} {ifs : List Expr} {scope : Scope} {cl : List (Str × Addr)} {pos : Pos} {Y : Addr → Prop} {l : List PV} (hh : A.handled = none)
    (hclos : closureFor scope env = pure cl) (hkind : scope.kind = .function) (hnames : ∀ y ∈ scope.names, y.2 = .local → scope.names.lookup y.1 = some .local)
    (hY : ∀ a, Y a → (s.heap.get? a).isSome = true) (hit : Ev prog w A env s Y iter (IterOf l)) (hlen : l.length ≤ sizeLine)
    (hc : CompCells scope env x) (p : Nat → Bool) (f : Nat → PV)
    (hturn : ∀ C i pv v s₃ T (Y' : Addr → Prop), (∀ a, Y a → Y' a) → (∀ a, Y' a → (s₃.heap.get? a).isSome = true) → l[i]? = some pv → Rp Y' pv v s₃.heap →
      Slot (compEnvC scope (cellsFrom (C + 1) scope.names cl) C env) x T s₃.heap (some v) → Keeps s s₃ →
      Tsts prog w A (compEnvC scope (cellsFrom (C + 1) scope.names cl) C env) s₃ ifs (p i) ∧ (p i = true → Ev prog w A (compEnvC scope (cellsFrom (C + 1) scope.names cl) C env) s₃ Y' elt (fun K => Rp K (f i))))
    (hs : ∀ x, foldedSetIterable iter env x = pure x := by intro _; rfl) :
    Ev prog w A env s Y (.ListComp elt [⟨.Name x px, iter, ifs, 0⟩] scope pos) (fun K => Rp K (.list (((List.range l.length).filter p).map f))) := by
  intro s' E Q k hQ
  rw [eval_ListComp]
  refine wpAny_comprehension_free (use := none) rfl hs hclos hkind hnames (hit s' E _ k fun xv s₁ k₁ hi => ?_)
  have ki : Keeps s s₁ := kp_trans k k₁
  refine comp_block (s := s₁) (RR := fun acc C => compPost (model prog w) A E none Q acc C) (Y := Yin Y s' s₁) hh hkind (fun a ha => ha.2) (iter_in hi) hlen hc p f ?_ ?_
  · intro C i pv v s₃ T e hr hsl k₃
    refine hturn C i pv v s₃ T _ (fun a ha => ⟨.inl ha, ?_⟩) (fun a ha => ?_) e hr hsl (kp_trans ki k₃)
    · have := hY a ha
      obtain ⟨o, e⟩ := Option.isSome_iff_exists.mp this
      rw [kp_up ki _ _ e]; rfl
    · obtain ⟨o, e⟩ := Option.isSome_iff_exists.mp ha.2
      rw [kp_up k₃ _ _ e]; rfl
  · intro D C h' tk ys m' hD hC hDC hL hp hn hu
    refine ⟨m', hn, fun h'' hs'' => ?_⟩
    have hu2 : Up s₁.heap h'' := fun b o e => hs''.extBut b o (by rintro rfl; rw [hC] at e; cases e) (hu b o e)
    refine hQ _ _ (kp_trans k₁ (kp_mk hu2)) ?_
    refine rp_list (.inr ?_) (hp.at fun o e => hs''.extBut _ o hDC e) (hL.on fun b its hb hq => ⟨nw_in k₁ hb, ?_⟩)
    · cases e : s'.heap.get? D with
      | none => rfl
      | some o => rw [kp_up k₁ _ _ e] at hD; cases hD
    · obtain ⟨n, e⟩ := hq
      refine ⟨n, hs''.extBut _ _ ?_ e⟩
      rintro rfl
      obtain ⟨o, es, ep, ho, hd, _⟩ := hn
      rw [e] at ho; cases ho; cases hd
end
end Mine
namespace Mine
section
variable (env : Env) (es : List Expr)
theorem se_const (c : Const) (k : Nat) (p : Pos) : starEach (.Constant c k p :: es) env = (false, eval (.Constant c k p) env) :: starEach es env := rfl
theorem se_name (x : Str) (p : Pos) : starEach (.Name x p :: es) env = (false, eval (.Name x p) env) :: starEach es env := rfl
theorem se_bin (l : Expr) (o : Operator) (r : Expr) (p : Pos) : starEach (.BinOp l o r p :: es) env = (false, eval (.BinOp l o r p) env) :: starEach es env := rfl
theorem se_call (f : Expr) (as : List Expr) (ks : List Keyword) (p : Pos) : starEach (.Call f as ks p :: es) env = (false, eval (.Call f as ks p) env) :: starEach es env := rfl
theorem se_sub (v sl : Expr) (p : Pos) : starEach (.Subscript v sl p :: es) env = (false, eval (.Subscript v sl p) env) :: starEach es env := rfl
theorem se_comp (e : Expr) (g : List Comprehension) (sc : Scope) (p : Pos) : starEach (.ListComp e g sc p :: es) env = (false, eval (.ListComp e g sc p) env) :: starEach es env := rfl
theorem se_gen (e : Expr) (g : List Comprehension) (sc : Scope) (p : Pos) : starEach (.GeneratorExp e g sc p :: es) env = (false, eval (.GeneratorExp e g sc p) env) :: starEach es env := rfl
theorem se_ite (t a b : Expr) (p : Pos) : starEach (.IfExp t a b p :: es) env = (false, eval (.IfExp t a b p) env) :: starEach es env := rfl
theorem se_list (l : List Expr) (p : Pos) : starEach (.List l p :: es) env = (false, eval (.List l p) env) :: starEach es env := rfl
theorem bt_cons (pos : Pos) (b : Bool) (x : Sem Value) (r : List (Bool × Sem Value)) : ∃ y, backTo pos ((b, x) :: r) = (b, y) :: backTo pos r := ⟨_, rfl⟩
end
section
variable {prog : Program} {w : World} {A : Around} {env : Env} {s : Shared} {Y : Addr → Prop}
/-- the name holds the data -/
def VarIs (env : Env) (s : Shared) (Y : Addr → Prop) (x : Str) (pv : PV) : Prop :=
  ∃ v, Rp Y pv v s.heap ∧ ((env.kindOf x = some .local ∧ ∃ m, s.heap.Ns env.locals m ∧ m x = some v) ∨ ((env.kindOf x = some .cell ∨ env.kindOf x = some .free) ∧ ∃ c, env.cells.lookup x = some c ∧ s.heap.IsCell c (some v)))
theorem VarIs.keeps {x : Str} {pv : PV} {s' : Shared} (h : VarIs env s Y x pv) (k : Keeps s s') : VarIs env s' Y x pv := by
  obtain ⟨v, hr, h⟩ := h
  refine ⟨v, hr.up (kp_up k), ?_⟩
  rcases h with ⟨a, m, hn, e⟩ | ⟨a, c, hc, o, ho, hd⟩
  · exact .inl ⟨a, m, hn.at' fun o e => kp_up k _ _ e, e⟩
  · exact .inr ⟨a, c, hc, o, kp_up k _ _ ho, hd⟩
theorem VarIs.mono {x : Str} {pv : PV} {Y' : Addr → Prop} (h : VarIs env s Y x pv) (k : ∀ a, Y a → Y' a) : VarIs env s Y' x pv := by
  obtain ⟨v, hr, h⟩ := h
  exact ⟨v, hr.mono k, h⟩
theorem Slot.var {x : Str} {T : Addr} {v : Value} {pv : PV} (h : Slot env x T s.heap (some v)) (hr : Rp Y pv v s.heap) : VarIs env s Y x pv := by
  refine ⟨v, hr, ?_⟩
  rcases h with ⟨a, rfl, m, hn, e⟩ | ⟨a, b, c⟩
  · exact .inl ⟨a, m, hn, e⟩
  · exact .inr ⟨.inl a, T, b, c⟩
/-- a name of an outer frame's cell, seen from a comprehension -/
theorem VarIs.inner {env' : Env} {x : Str} {pv : PV} {c : Addr} (h : VarIs env s Y x pv) (hk : env.kindOf x = some .cell ∨ env.kindOf x = some .free) (hc : env.cells.lookup x = some c)
    (hk' : env'.kindOf x = some .cell ∨ env'.kindOf x = some .free) (hc' : env'.cells.lookup x = some c) : VarIs env' s Y x pv := by
  obtain ⟨v, hr, h⟩ := h
  refine ⟨v, hr, .inr ⟨hk', c, hc', ?_⟩⟩
  rcases h with ⟨a, _⟩ | ⟨_, c', hc'', h⟩
  · rcases hk with hk | hk <;> (rw [hk] at a; cases a)
  · rw [hc''] at hc; cases hc; exact h

theorem ev_var {x : Str} {pos : Pos} {pv : PV} (hk : env.scope.kind = .function) (h : VarIs env s Y x pv) (hd : (x == ("__debug__" : Str)) = false := by decide) (hn : (x == ("__classdict__" : Str)) = false := by decide) :
    Ev prog w A env s Y (.Name x pos) (fun K => Rp K pv) := by
  intro s' E Q k hQ
  refine wpAny_Name ?_ hd
  obtain ⟨v, hr, h⟩ := h.keeps k
  have q := hQ v s' (kp_refl _) (hr.mono fun a ha => .inl ha)
  rcases h with ⟨a, m, hm, e⟩ | ⟨a | a, c, hc, hv⟩
  · exact wpAny_loadName_local hk a hm e q
  · exact wpAny_loadName_cell hk a hc hv q
  · exact wpAny_loadName_free hk a hc hv q hn
theorem ev_int {i : Int} {k : Nat} {pos : Pos} : Ev prog w A env s Y (.Constant (.int i) k pos) (fun K => Rp K (.int i)) :=
  fun s' _ _ _ hQ => wpAny_Constant_int (hQ _ _ (kp_tok _ _) (rp_int ..))
theorem ev_str {i : Str} {k : Nat} {pos : Pos} : Ev prog w A env s Y (.Constant (.str i) k pos) (fun K => Rp K (.str i)) :=
  fun s' _ _ _ hQ => wpAny_Constant_str (hQ _ _ (kp_tok _ _) (rp_str ..))

/-- two operands and an operation -/
theorem ev_bin {l r : Expr} {op : Operator} {pos : Pos} {a b : PV} {P : Post} (hl : Ev prog w A env s Y l (fun K => Rp K a)) (hr : Ev prog w A env s Y r (fun K => Rp K b))
    (ho : ∀ (K : Addr → Prop) va vb (s' : Shared) (E : Value → Shared → Prop) (Q : Value → Shared → Prop), Keeps s s' → Rp K a va s'.heap → Rp K b vb s'.heap → (∀ v s'', Keeps s' s'' → P (Nw K s') v s''.heap → Q v s'') → wpAny (model prog w) A (binaryOp op va vb) Q E s')
    (hP : P.Ok) : Ev prog w A env s Y (.BinOp l op r pos) P := by
  intro s' E Q k hQ
  refine wpAny_BinOp (hl s' E _ k fun va s₁ k₁ h₁ => hr s₁ E _ (kp_trans k k₁) fun vb s₂ k₂ h₂ => ?_)
  refine ho (Nw Y s') va vb s₂ E Q (kp_trans (kp_trans k k₁) k₂) (h₁.up (kp_up k₂)) (h₂.mono fun a ha => Nw.of_keeps k₁ ha) fun v s₃ k₃ h₃ => hQ v s₃ (kp_trans (kp_trans k₁ k₂) k₃) (hP _ _ _ _ _ h₃ (fun a ha => by
    rcases ha with ha | ha
    · exact ha
    · exact Nw.of_keeps (kp_trans k₁ k₂) (.inr ha)) (Up.refl _))

theorem ev_binI {l r : Expr} {op : Operator} {pos : Pos} {a b c : Int} (hl : Ev prog w A env s Y l (fun K => Rp K (.int a))) (hr : Ev prog w A env s Y r (fun K => Rp K (.int b)))
    (ho : ∀ t u (s' : Shared) (E : Value → Shared → Prop) (Q : Value → Shared → Prop), Q (.int c s'.toks) { s' with toks := s'.toks + 1 } → wpAny (model prog w) A (binaryOp op (.int a t) (.int b u)) Q E s') :
    Ev prog w A env s Y (.BinOp l op r pos) (fun K => Rp K (.int c)) :=
  ev_bin hl hr (fun K va vb s' E Q _ ha hb hQ => by
    obtain ⟨t, rfl⟩ := ha.inv_int
    obtain ⟨u, rfl⟩ := hb.inv_int
    exact ho t u s' E Q (hQ _ _ (kp_tok _ _) (rp_int ..))) (Rp.ok _)
theorem ev_add {l r : Expr} {pos : Pos} {a b : Int} (hl : Ev prog w A env s Y l (fun K => Rp K (.int a))) (hr : Ev prog w A env s Y r (fun K => Rp K (.int b))) : Ev prog w A env s Y (.BinOp l .Add r pos) (fun K => Rp K (.int (a + b))) :=
  ev_binI hl hr fun _ _ _ _ _ h => PyProof.Rows.add_int h
theorem ev_sub {l r : Expr} {pos : Pos} {a b : Int} (hl : Ev prog w A env s Y l (fun K => Rp K (.int a))) (hr : Ev prog w A env s Y r (fun K => Rp K (.int b))) : Ev prog w A env s Y (.BinOp l .Sub r pos) (fun K => Rp K (.int (a - b))) :=
  ev_binI hl hr fun _ _ _ _ _ h => PyProof.Rows.sub_int h
theorem ev_mul {l r : Expr} {pos : Pos} {a b : Int} (hl : Ev prog w A env s Y l (fun K => Rp K (.int a))) (hr : Ev prog w A env s Y r (fun K => Rp K (.int b))) (hm : IntMulOk a b) : Ev prog w A env s Y (.BinOp l .Mult r pos) (fun K => Rp K (.int (a * b))) :=
  ev_binI hl hr fun _ _ _ _ _ h => PyProof.Rows.mul_int h hm
theorem ev_mod {l r : Expr} {pos : Pos} {a b : Int} (hl : Ev prog w A env s Y l (fun K => Rp K (.int a))) (hr : Ev prog w A env s Y r (fun K => Rp K (.int b))) (hb : b ≠ 0) : Ev prog w A env s Y (.BinOp l .Mod r pos) (fun K => Rp K (.int (a.fmod b))) :=
  ev_binI hl hr fun _ _ _ _ _ h => mod_int' hb h
theorem ev_shr {l r : Expr} {pos : Pos} {a b : Int} (hl : Ev prog w A env s Y l (fun K => Rp K (.int a))) (hr : Ev prog w A env s Y r (fun K => Rp K (.int b))) (hb : 0 ≤ b) : Ev prog w A env s Y (.BinOp l .RShift r pos) (fun K => Rp K (.int (a.fdiv (2 ^ b.toNat)))) :=
  ev_binI hl hr fun _ _ _ _ _ h => rshift_int hb h
theorem ev_and {l r : Expr} {pos : Pos} {a b : Int} (hl : Ev prog w A env s Y l (fun K => Rp K (.int a))) (hr : Ev prog w A env s Y r (fun K => Rp K (.int b))) : Ev prog w A env s Y (.BinOp l .BitAnd r pos) (fun K => Rp K (.int (Builtin.bitAnd a b))) :=
  ev_binI hl hr fun _ _ _ _ _ h => and_int h
theorem ev_pow {l r : Expr} {pos : Pos} {a b : Int} (hl : Ev prog w A env s Y l (fun K => Rp K (.int a))) (hr : Ev prog w A env s Y r (fun K => Rp K (.int b))) (hb : 0 ≤ b) (hz : (Builtin.Int.intBits a : Int) * b ≤ 2 ^ 27) : Ev prog w A env s Y (.BinOp l .Pow r pos) (fun K => Rp K (.int (a ^ b.toNat))) :=
  ev_binI hl hr fun _ _ _ _ _ h => pow_int hb hz h

/-- a comparison -/
theorem ev_cmp {l r : Expr} {op : CmpOp} {pos : Pos} {a b : PV} {c : Bool} (hl : Ev prog w A env s Y l (fun K => Rp K a)) (hr : Ev prog w A env s Y r (fun K => Rp K b))
    (ho : ∀ (K : Addr → Prop) va vb (s' : Shared) (E : Value → Shared → Prop) (Q : Value → Shared → Prop), Keeps s s' → Rp K a va s'.heap → Rp K b vb s'.heap → (∀ s'', Keeps s' s'' → Q (.bool c) s'') → wpAny (model prog w) A (compareOp op va vb) Q E s')
    (hm : behindInMarks op r = false := by with_unfolding_all rfl) : Ev prog w A env s Y (.Compare l [op] [r] pos) (fun K => Rp K (.bool c)) := by
  intro s' E Q k hQ
  refine wpAny_Compare1 (hl s' E _ k fun va s₁ k₁ h₁ => hr s₁ E _ (kp_trans k k₁) fun vb s₂ k₂ h₂ => ?_) hm
  exact ho (Nw Y s') va vb s₂ E Q (kp_trans (kp_trans k k₁) k₂) (h₁.up (kp_up k₂)) (h₂.mono fun a ha => Nw.of_keeps k₁ ha) fun s₃ k₃ => hQ _ s₃ (kp_trans (kp_trans k₁ k₂) k₃) (rp_bool ..)
theorem tst_cmp {l r : Expr} {op : CmpOp} {pos : Pos} {a b : PV} {c : Bool} (hl : Ev prog w A env s Y l (fun K => Rp K a)) (hr : Ev prog w A env s Y r (fun K => Rp K b))
    (ho : ∀ (K : Addr → Prop) va vb (s' : Shared) (E : Value → Shared → Prop) (Q : Value → Shared → Prop), Keeps s s' → Rp K a va s'.heap → Rp K b vb s'.heap → (∀ s'', Keeps s' s'' → Q (.bool c) s'') → wpAny (model prog w) A (compareOp op va vb) Q E s')
    (hm : behindInMarks op r = false := by with_unfolding_all rfl) : Tst prog w A env s (.Compare l [op] [r] pos) c := by
  intro s' E Q k hQ
  refine wpAny_isTrue_Compare1 (hl s' E _ k fun va s₁ k₁ h₁ => hr s₁ E _ (kp_trans k k₁) fun vb s₂ k₂ h₂ => ?_) hm
  exact ho (Nw Y s') va vb s₂ E _ (kp_trans (kp_trans k k₁) k₂) (h₁.up (kp_up k₂)) (h₂.mono fun a ha => Nw.of_keeps k₁ ha) fun s₃ k₃ => wpAny_truthy_bool (hQ s₃ (kp_trans (kp_trans k₁ k₂) k₃))
/-- a test by the value's truth -/
theorem tst_val {e : Expr} {pv : PV} {b : Bool} (he : Ev prog w A env s Y e (fun K => Rp K pv))
    (ht : ∀ (K : Addr → Prop) v (s' : Shared) (E : Value → Shared → Prop) (Q : Bool → Shared → Prop), Rp K pv v s'.heap → Q b s' → wpAny (model prog w) A (truthy v) Q E s')
    (hi : ∀ whole, isTrue e env whole = (do let v ← whole; standAt e.pos; holding [v] (truthy v)) := by intro _; rfl) : Tst prog w A env s e b := by
  intro s' E Q k hQ
  exact wpAny_isTrue_value (he s' E _ k fun v s₁ k₁ h₁ => ht _ v s₁ E Q h₁ (hQ s₁ k₁)) (hi _)
theorem tst_not {e : Expr} {pos : Pos} {b : Bool} (he : Tst prog w A env s e b) : Tst prog w A env s (.UnaryOp .Not e pos) (!b) :=
  fun s' E Q k hQ => wpAny_isTrue_Not (he s' E _ k hQ)
theorem ev_ite {t a b : Expr} {pos : Pos} {c : Bool} {P : Post} (ht : Tst prog w A env s t c) (ha : c = true → Ev prog w A env s Y a P) (hb : c = false → Ev prog w A env s Y b P) (hP : P.Ok) : Ev prog w A env s Y (.IfExp t a b pos) P := by
  intro s' E Q k hQ
  refine wpAny_IfExp (ht s' E _ k fun s₁ k₁ => ?_)
  cases c with
  | true => exact ha rfl s₁ E Q (kp_trans k k₁) fun v s₂ k₂ h => hQ v s₂ (kp_trans k₁ k₂) (hP _ _ _ _ _ h (fun a ha => Nw.of_keeps k₁ ha) (Up.refl _))
  | false => exact hb rfl s₁ E Q (kp_trans k k₁) fun v s₂ k₂ h => hQ v s₂ (kp_trans k₁ k₂) (hP _ _ _ _ _ h (fun a ha => Nw.of_keeps k₁ ha) (Up.refl _))

/-- the items of a display -/
def EvL (prog : Program) (w : World) (A : Around) (env : Env) (s : Shared) (Y : Addr → Prop) (pos : Pos) (es : List Expr) (l : List PV) : Prop :=
  ∀ (s' : Shared) (E : Value → Shared → Prop) (Q : List Value → Shared → Prop), Keeps s s' → (∀ vs s'', Keeps s' s'' → RpL (Nw Y s') l vs s''.heap → Q vs s'') → wpAny (model prog w) A (spliced (backTo pos (starEach es env))) Q E s'
theorem evl_nil {pos : Pos} : EvL prog w A env s Y pos [] [] := fun s' _ _ _ hQ => wpAny_items_nil (hQ [] s' (kp_refl _) (.nil _))
theorem evl_cons {pos : Pos} {e : Expr} {es : List Expr} {pv : PV} {l : List PV} (h : Ev prog w A env s Y e (fun K => Rp K pv)) (hr : EvL prog w A env s Y pos es l)
    (he : starEach (e :: es) env = (false, eval e env) :: starEach es env := by first | exact se_const .. | exact se_name .. | exact se_bin .. | exact se_call .. | exact se_sub .. | exact se_comp .. | exact se_gen .. | exact se_ite .. | exact se_list ..) : EvL prog w A env s Y pos (e :: es) (pv :: l) := by
  intro s' E Q k hQ
  refine wpAny_items_cons (h s' E _ k fun v s₁ k₁ h₁ => hr s₁ E _ (kp_trans k k₁) fun vs s₂ k₂ h₂ => hQ _ s₂ (kp_trans k₁ k₂) ?_) he
  exact .cons (h₁.up (kp_up k₂)) (h₂.mono fun a ha => Nw.of_keeps k₁ ha)
theorem ev_list {es : List Expr} {pos : Pos} {l : List PV} (h : EvL prog w A env s Y pos es l) (hl : l.length ≤ sizeLine) : Ev prog w A env s Y (.List es pos) (fun K => Rp K (.list l)) := by
  intro s' E Q k hQ
  refine wpAny_List (h s' E _ k fun vs s₁ k₁ h₁ => ⟨by rw [h₁.length]; exact hl, ?_⟩)
  refine hQ _ _ (kp_trans k₁ (kp_push s₁ _)) (rp_list (.inr ?_) ⟨_, Heap.get?_push_size _ rfl⟩ (h₁.up fun b o e => Heap.get?_push_of_some _ e))
  cases e : s'.heap.get? s₁.heap.objs.size with
  | none => rfl
  | some o => exact absurd (Heap.lt_size (kp_up k₁ _ _ e)) (Nat.lt_irrefl _)
end
end Mine
namespace Mine
section
variable {prog : Program} {w : World} {A : Around} {env : Env} {s base : Shared} {X : Addr → Prop} {Sm : Array GenState → Drawn → OsState → Prop} {ρ : Str → Option PV} {N : Addr → Prop}
def Dm (s : Shared) (a : Addr) : Prop := (s.heap.get? a).isSome = true
theorem Rp.dm {K : Addr → Prop} {p : PV} {v : Value} {s : Shared} (x : Rp K p v s.heap) : Rp (Dm s) p v s.heap := x.on fun b its _ hp => ⟨by obtain ⟨n, e⟩ := hp; show (s.heap.get? b).isSome = true; rw [e]; rfl, hp⟩
theorem RpL.dm {K : Addr → Prop} {p : List PV} {v : List Value} {s : Shared} (x : RpL K p v s.heap) : RpL (Dm s) p v s.heap := x.on fun b its _ hp => ⟨by obtain ⟨n, e⟩ := hp; show (s.heap.get? b).isSome = true; rw [e]; rfl, hp⟩
/-- only a dict or a cell turned: what a value represents stands -/
theorem Rp.side {K : Addr → Prop} {p : PV} {v : Value} {h h' : Heap} {c : Addr} {o : Obj} (x : Rp K p v h) (hs : Heap.SameBut c h h') (ho : h.get? c = some o) (hd : ∀ its n, o.data ≠ .seq its n) : Rp K p v h' :=
  x.on fun b its hb hp => ⟨hb, let ⟨n, e⟩ := hp; ⟨n, hs.extBut b _ (by rintro rfl; rw [ho] at e; cases e; exact hd _ _ rfl) e⟩⟩

/-- what stands, but the reserved -/
def Kn (N : Addr → Prop) (s : Shared) (a : Addr) : Prop := Dm s a ∧ ¬ N a
theorem Rp.kn {K : Addr → Prop} {p : PV} {v : Value} {s : Shared} (x : Rp K p v s.heap) (hK : ∀ a, K a → ¬ N a) : Rp (Kn N s) p v s.heap := x.on fun b its hb hp => ⟨⟨by obtain ⟨n, e⟩ := hp; show (s.heap.get? b).isSome = true; rw [e]; rfl, hK b hb⟩, hp⟩
/-- the state of a def's frame: its names hold the data of ρ; what stood at base stands but at X -/
structure LS (env : Env) (base : Shared) (X : Addr → Prop) (Sm : Array GenState → Drawn → OsState → Prop) (N : Addr → Prop) (ρ : Str → Option PV) (s : Shared) : Prop where
  nd : ∀ a, N a → (s.heap.get? a).isSome = true
  same : Sm s.gens s.drawn s.os
  keep : ∀ b o, base.heap.get? b = some o → ¬ X b → s.heap.get? b = some o
  ns : ∃ m, s.heap.Ns env.locals m ∧ ∀ x, env.kindOf x = some .local → ∀ pv, ρ x = some pv → ∃ v, m x = some v ∧ Rp (Kn N s) pv v s.heap
  cells : ∀ x c, env.cells.lookup x = some c → ∃ ov, s.heap.IsCell c ov ∧ ∀ pv, ρ x = some pv → ∃ v, ov = some v ∧ Rp (Kn N s) pv v s.heap
theorem Rp.dmk {p : PV} {v : Value} {s s' : Shared} (x : Rp (Kn N s) p v s.heap) (k : Keeps s s') : Rp (Kn N s') p v s'.heap := (x.up (kp_up k)).kn fun _ h => h.2
theorem LS.keeps {s' : Shared} (x : LS env base X Sm N ρ s) (k : Keeps s s') : LS env base X Sm N ρ s' := by
  have u := kp_up k
  refine ⟨fun a ha => by obtain ⟨o, e⟩ := Option.isSome_iff_exists.mp (x.nd a ha); rw [u _ _ e]; rfl, ?_, fun b o e hb => u _ _ (x.keep b o e hb), ?_, ?_⟩
  · obtain ⟨h', tk, rfl, _⟩ := id k; exact x.same
  · obtain ⟨m, hn, hm⟩ := x.ns
    exact ⟨m, hn.at' fun o e => u _ _ e, fun y hy pv e => let ⟨v, h1, h2⟩ := hm y hy pv e; ⟨v, h1, h2.dmk k⟩⟩
  · intro y c e
    obtain ⟨ov, ⟨o, ho, hd⟩, hv⟩ := x.cells y c e
    exact ⟨ov, ⟨o, u _ _ ho, hd⟩, fun pv e => let ⟨v, h1, h2⟩ := hv pv e; ⟨v, h1, h2.dmk k⟩⟩
theorem LS.var {x : Str} {pv : PV} (h : LS env base X Sm N ρ s) (hk : env.kindOf x = some .local ∨ (env.kindOf x = some .cell ∧ (env.cells.lookup x).isSome = true)) (e : ρ x = some pv) : VarIs env s (Kn N s) x pv := by
  rcases hk with hk | ⟨hk, hc⟩
  · obtain ⟨m, hn, hm⟩ := h.ns
    obtain ⟨v, h1, h2⟩ := hm x hk pv e
    exact ⟨v, h2, .inl ⟨hk, m, hn, h1⟩⟩
  · obtain ⟨c, hc⟩ := Option.isSome_iff_exists.mp hc
    obtain ⟨ov, h1, h2⟩ := h.cells x c hc
    obtain ⟨v, rfl, h3⟩ := h2 pv e
    exact ⟨v, h3, .inr ⟨.inl hk, c, hc, h1⟩⟩
/-- the addresses of a frame: its table and its cells, new since base, each its own -/
structure FrameAt (env : Env) (base : Shared) : Prop where
  kind : env.scope.kind = .function
  loc : base.heap.get? env.locals = none
  cell : ∀ x c, env.cells.lookup x = some c → base.heap.get? c = none ∧ c ≠ env.locals
  apart : ∀ x y c, env.cells.lookup x = some c → env.cells.lookup y = some c → x = y
  celk : ∀ x c, env.cells.lookup x = some c → env.kindOf x = some .cell
def set (ρ : Str → Option PV) (x : Str) (pv : PV) : Str → Option PV := fun y => if y = x then some pv else ρ y

/-- what does not lie in the frame stands -/
def Off (env : Env) (s s' : Shared) : Prop := ∀ b o, b ≠ env.locals → (∀ x c, env.cells.lookup x = some c → b ≠ c) → s.heap.get? b = some o → s'.heap.get? b = some o

theorem LS.store {x : Str} {pv : PV} {v : Value} {K : Addr → Prop} {E : Value → Shared → Prop} {Q : Unit → Shared → Prop} (F : FrameAt env base) (h : LS env base X Sm N ρ s) (hr : Rp K pv v s.heap) (hK : ∀ a, K a → ¬ N a)
    (hk : env.kindOf x = some .local ∨ (env.kindOf x = some .cell ∧ (env.cells.lookup x).isSome = true)) (hQ : ∀ s', LS env base X Sm N (set ρ x pv) s' → Off env s s' → Q () s') : wpAny (model prog w) A (storeName env x v) Q E s := by
  rcases hk with hk | ⟨hk, hc⟩
  · obtain ⟨m, hn, hm⟩ := h.ns
    refine wpAny_storeName_local hk hn (fun h' hn' hs' => hQ _ ?_ fun b o hb _ e => hs'.extBut b o hb e) (by rw [F.kind]; rfl)
    obtain ⟨o, es, ep, ho, hd, _⟩ := id hn
    have side : ∀ {p : PV} {v : Value}, Rp (Kn N s) p v s.heap → Rp (Kn N { s with heap := h', toks := s.toks + 1 }) p v h' := fun x =>
      (Rp.side x hs' ho (by rw [hd]; intro _ _ e; cases e)).kn (s := { s with heap := h', toks := s.toks + 1 }) fun _ h => h.2
    refine ⟨fun a ha => (by
      by_cases ea : a = env.locals
      · subst ea; obtain ⟨o, _, _, ho, _⟩ := hn'; rw [ho]; rfl
      · rw [hs'.2 a ea]; exact h.nd a ha), h.same, fun b o e hb => hs'.extBut b o (by rintro rfl; rw [F.loc] at e; cases e) (h.keep b o e hb), ⟨_, hn', ?_⟩, ?_⟩
    · intro y hy q e
      by_cases hyx : y = x
      · subst hyx
        simp only [set, if_true, Option.some.injEq] at e
        subst e
        exact ⟨v, by simp, side (hr.kn hK)⟩
      · simp only [set, hyx, if_false] at e ⊢
        obtain ⟨v', h1, h2⟩ := hm y hy q e
        exact ⟨v', h1, side h2⟩
    · intro y c e
      obtain ⟨ov, ⟨o', ho', hd'⟩, hv⟩ := h.cells y c e
      refine ⟨ov, ⟨o', hs'.extBut _ _ (F.cell y c e).2 ho', hd'⟩, fun q eq => ?_⟩
      have hyx : y ≠ x := by rintro rfl; rw [F.celk y c e] at hk; cases hk
      simp only [set, hyx, if_false] at eq
      obtain ⟨v', h1, h2⟩ := hv q eq
      exact ⟨v', h1, side h2⟩
  · obtain ⟨c, hc⟩ := Option.isSome_iff_exists.mp hc
    obtain ⟨ov, h1, _⟩ := h.cells x c hc
    refine wpAny_storeName_cell F.kind hk hc h1 fun h' hc' hs' => hQ _ ?_ fun b o _ hb e => hs'.extBut b o (hb x c hc) e
    obtain ⟨o, ho, hd⟩ := id h1
    have side : ∀ {p : PV} {v : Value}, Rp (Kn N s) p v s.heap → Rp (Kn N { s with heap := h' }) p v h' := fun x =>
      (Rp.side x hs' ho (by rw [hd]; intro _ _ e; cases e)).kn (s := { s with heap := h' }) fun _ h => h.2
    refine ⟨fun a ha => (by
      by_cases ea : a = c
      · subst ea; obtain ⟨o, ho, _⟩ := hc'; rw [ho]; rfl
      · rw [hs'.2 a ea]; exact h.nd a ha), h.same, fun b o e hb => hs'.extBut b o (by rintro rfl; rw [(F.cell x _ hc).1] at e; cases e) (h.keep b o e hb), ?_, ?_⟩
    · obtain ⟨m, hn, hm⟩ := h.ns
      refine ⟨m, hn.at' fun o e => hs'.extBut _ _ (Ne.symm (F.cell x c hc).2) e, fun y hy q e => ?_⟩
      have hyx : y ≠ x := by rintro rfl; rw [hk] at hy; cases hy
      simp only [set, hyx, if_false] at e
      obtain ⟨v', h1, h2⟩ := hm y hy q e
      exact ⟨v', h1, side h2⟩
    · intro y d e
      by_cases hyx : y = x
      · subst hyx
        rw [hc] at e; cases e
        refine ⟨_, hc', fun q eq => ?_⟩
        simp only [set, if_true, Option.some.injEq] at eq
        subst eq
        exact ⟨v, rfl, side (hr.kn hK)⟩
      · obtain ⟨ov', ⟨o', ho', hd'⟩, hv⟩ := h.cells y d e
        refine ⟨ov', ⟨o', hs'.extBut _ _ (fun hdc => hyx (F.apart y x d e (hdc ▸ hc))) ho', hd'⟩, fun q eq => ?_⟩
        simp only [set, hyx, if_false] at eq
        obtain ⟨v', h1, h2⟩ := hv q eq
        exact ⟨v', h1, side h2⟩

theorem LS.side {C : Addr} {m : Str → Option Value} {h' : Heap} (h : LS env base X Sm N ρ s) (hCN : ¬ N C) (hC : base.heap.get? C = none) (hL : C ≠ env.locals) (hc : ∀ x c, env.cells.lookup x = some c → C ≠ c) (hn : s.heap.Ns C m) (hs : Heap.SameBut C s.heap h') :
    LS env base X Sm N ρ { s with heap := h' } := by
  obtain ⟨o, es, ep, ho, hd, _⟩ := id hn
  have side : ∀ {p : PV} {v : Value}, Rp (Kn N s) p v s.heap → Rp (Kn N { s with heap := h' }) p v h' := fun x =>
    (Rp.side x hs ho (by rw [hd]; intro _ _ e; cases e)).kn (s := { s with heap := h' }) fun _ h => h.2
  refine ⟨fun a ha => (by
      by_cases ea : a = C
      · subst ea; exact absurd ha hCN
      · rw [hs.2 a ea]; exact h.nd a ha), h.same, fun b o e hb => hs.extBut b o (by rintro rfl; rw [hC] at e; cases e) (h.keep b o e hb), ?_, ?_⟩
  · obtain ⟨m', hn', hm⟩ := h.ns
    exact ⟨m', hn'.at' fun o e => hs.extBut _ _ (Ne.symm hL) e, fun y hy q e => let ⟨v, h1, h2⟩ := hm y hy q e; ⟨v, h1, side h2⟩⟩
  · intro y c e
    obtain ⟨ov, ⟨o', ho', hd'⟩, hv⟩ := h.cells y c e
    exact ⟨ov, ⟨o', hs.extBut _ _ (Ne.symm (hc y c e)) ho', hd'⟩, fun q eq => let ⟨v, h1, h2⟩ := hv q eq; ⟨v, h1, side h2⟩⟩
/-- an address that the frame does not stand at -/
theorem LS.off {C : Addr} {s₁ : Shared} (F : FrameAt env base) (h : LS env base X Sm N ρ s₁) (hX : ∀ a, X a → (s₁.heap.get? a).isSome = true) (hC : s₁.heap.get? C = none) : base.heap.get? C = none ∧ C ≠ env.locals ∧ ∀ x c, env.cells.lookup x = some c → C ≠ c := by
  refine ⟨?_, ?_, ?_⟩
  · cases e : base.heap.get? C with
    | none => rfl
    | some o =>
      by_cases hx : X C
      · have := hX C hx; rw [hC] at this; cases this
      · rw [h.keep C o e hx] at hC; cases hC
  · rintro rfl
    obtain ⟨m, ⟨o, es, ep, ho, _⟩, _⟩ := h.ns
    rw [ho] at hC; cases hC
  · rintro x c e rfl
    obtain ⟨ov, ⟨o, ho, _⟩, _⟩ := h.cells x C e
    rw [ho] at hC; cases hC

theorem LS.nw {s s₀ : Shared} (h : LS env base X Sm N ρ s) (hk : Keeps s s₀) {a : Addr} (x : Nw (Kn N s) s₀ a) : ¬ N a := by
  rcases x with x | x
  · exact x.2
  · intro hn
    obtain ⟨o, e⟩ := Option.isSome_iff_exists.mp (h.nd a hn)
    rw [kp_up hk _ _ e] at x; cases x
theorem st_assign {x : Str} {px pos : Pos} {e : Expr} {pv : PV} {E : Value → Shared → Prop} {Q : Flow → Shared → Prop} (F : FrameAt env base) (h : LS env base X Sm N ρ s)
    (hk : env.kindOf x = some .local ∨ (env.kindOf x = some .cell ∧ (env.cells.lookup x).isSome = true)) (he : Ev prog w A env s (Kn N s) e (fun K => Rp K pv))
    (hQ : ∀ s', LS env base X Sm N (set ρ x pv) s' → Q .next s') (hs : swapsWith e (some (.Name x px)) pos.line env = pure false) : wpAny (model prog w) A (exec (.Assign [.Name x px] e pos) env) Q E s :=
  wpAny_Assign_Name (he s E _ (kp_refl _) fun v s₁ k₁ hr => LS.store F (h.keeps k₁) hr (fun a ha => h.nw (kp_refl _) ha) hk fun s' hl _ => hQ s' hl) hs

theorem st_comp {elt iter : Expr} {x : Str} {px : Pos} {ifs : List Expr} {scope : Scope} {cl : List (Str × Addr)} {pos : Pos} {l : List PV} {y : Str} {py spos : Pos} {E : Value → Shared → Prop} {Q : Flow → Shared → Prop}
    (F : FrameAt env base) (h : LS env base X Sm N ρ s) (hX : ∀ a, X a → (s.heap.get? a).isSome = true) (hh : A.handled = none) (hk : env.kindOf y = some .local)
    (hsw : swapsWith (.ListComp elt [⟨.Name x px, iter, ifs, 0⟩] scope pos) (some (.Name y py)) spos.line env = pure true)
    (hclos : closureFor scope env = pure cl) (hkind : scope.kind = .function) (hnames : ∀ y ∈ scope.names, y.2 = .local → scope.names.lookup y.1 = some .local)
    (hit : Ev prog w A env s (Kn N s) iter (IterOf l)) (hlen : l.length ≤ sizeLine)
    (hc : CompCells scope env x) (p : Nat → Bool) (f : Nat → PV)
    (hturn : ∀ C i pv v s₃ T (Y' : Addr → Prop), (∀ a, Kn N s a → Y' a) → (∀ a, Y' a → (s₃.heap.get? a).isSome = true) → l[i]? = some pv → Rp Y' pv v s₃.heap →
      Slot (compEnvC scope (cellsFrom (C + 1) scope.names cl) C env) x T s₃.heap (some v) → Keeps s s₃ →
      Tsts prog w A (compEnvC scope (cellsFrom (C + 1) scope.names cl) C env) s₃ ifs (p i) ∧ (p i = true → Ev prog w A (compEnvC scope (cellsFrom (C + 1) scope.names cl) C env) s₃ Y' elt (fun K => Rp K (f i))))
    (hQ : ∀ s', LS env base X Sm N (set ρ y (.list (((List.range l.length).filter p).map f))) s' → Q .next s')
    (hs : ∀ x, foldedSetIterable iter env x = pure x := by intro _; rfl) :
    wpAny (model prog w) A (exec (.Assign [.Name y py] (.ListComp elt [⟨.Name x px, iter, ifs, 0⟩] scope pos) spos) env) Q E s := by
  rw [exec_Assign_Name_used _ _ _ _ hsw]
  refine wpAny_bind (wpAny_standAt (wpAny_bind ?_))
  show wpAny _ A (do let _ ← comprehension (.ListComp elt [⟨.Name x px, iter, ifs, 0⟩] scope pos) scope env _ (newList []) false (eval iter env) (some (assign (.Name y py) env))) _ _ s
  refine wpAny_bind (wpAny_mono (wpAny_comprehension_free (use := some (assign (.Name y py) env)) (Q := fun _ s' => Q .next s') rfl hs hclos hkind hnames
    (hit s E _ (kp_refl _) fun xv s₁ k₁ hi => ?_)) (fun _ s' hq => wpAny_pure (wpAny_pure hq)) fun _ _ e => e)
  refine comp_block (s := s₁) (RR := fun acc C => compPost (model prog w) A E (some (assign (.Name y py) env)) (fun _ s' => Q .next s') acc C) (Y := Yin (Kn N s) s s₁) hh hkind (fun a ha => ha.2) (iter_in hi) hlen hc p f ?_ ?_
  · intro C i pv v s₃ T e hr hsl k₃
    refine hturn C i pv v s₃ T _ (fun a ha => ⟨.inl ha, ?_⟩) (fun a ha => ?_) e hr hsl (kp_trans k₁ k₃)
    · obtain ⟨o, e⟩ := Option.isSome_iff_exists.mp ha.1
      rw [kp_up k₁ _ _ e]; rfl
    · obtain ⟨o, e⟩ := Option.isSome_iff_exists.mp ha.2
      rw [kp_up k₃ _ _ e]; rfl
  · intro D C h' tk ys m' hD hC hDC hL hp hn hu
    have L₁ := h.keeps k₁
    have off := LS.off F L₁ (fun a ha => by obtain ⟨o, e⟩ := Option.isSome_iff_exists.mp (hX a ha); rw [kp_up k₁ _ _ e]; rfl) hC
    have L₂ : LS env base X Sm N ρ { s₁ with heap := h', toks := tk } := L₁.keeps (kp_mk hu)
    have hND : ∀ b, s₁.heap.get? b = none → ¬ N b := fun b hb hn => by
      obtain ⟨o, e⟩ := Option.isSome_iff_exists.mp (L₁.nd b hn)
      rw [e] at hb; cases hb
    have hr : Rp (fun a => ¬ N a) (.list (((List.range l.length).filter p).map f)) (.ref D) h' := rp_list (hND D hD) hp (hL.mono fun a ha => h.nw (kp_refl _) (nw_in k₁ ha))
    show wpAny _ A (assign (.Name y py) env (.ref D)) _ _ _
    -- the store, and that the comprehension's own table stands
    obtain ⟨m, hm, hmv⟩ := L₂.ns
    refine wpAny_assign_Name ?_
    refine wpAny_mono (LS.store F L₂ hr (fun _ h => h) (.inl hk) (Q := fun _ s' => LS env base X Sm N (set ρ y (.list (((List.range l.length).filter p).map f))) s' ∧ ∃ m, s'.heap.Ns C m) (fun s' hl ho => ⟨hl, m', hn.at' fun o e => ho _ _ off.2.1 off.2.2 e⟩)) (fun _ s' hq => ?_) fun _ _ e => e
    · obtain ⟨hl, m₂, hm₂⟩ := hq
      exact ⟨m₂, hm₂, fun h'' hs'' => hQ _ (hl.side (hND C hC) off.1 off.2.1 off.2.2 hm₂ hs'')⟩
end
end Mine
namespace Mine
section
variable {prog : Program} {w : World} {A : Around} {env : Env} {s : Shared} {Y : Addr → Prop} {mg mb : Str → Option Value}
/-- the module's names and the built-in ones -/
structure Glb (env : Env) (s : Shared) (mg mb : Str → Option Value) : Prop where
  g : s.heap.Ns env.globals mg
  b : s.heap.Ns env.builtins mb
theorem Glb.keeps {s' : Shared} (G : Glb env s mg mb) (k : Keeps s s') : Glb env s' mg mb := ⟨G.g.at' fun o e => kp_up k _ _ e, G.b.at' fun o e => kp_up k _ _ e⟩
theorem Glb.comp {scope : Scope} {cl : List (Str × Addr)} {C : Addr} (G : Glb env s mg mb) : Glb (compEnvC scope cl C env) s mg mb := ⟨G.g, G.b⟩
theorem name_b {f : Str} {p : Pos} {v : Value} {E : Value → Shared → Prop} {Q : Value → Shared → Prop} (hk : env.scope.kind = .function) (hx : env.kindOf f = some .globalImplicit) (G : Glb env s mg mb) (h1 : mg f = none) (h2 : mb f = some v) (hQ : Q v s)
    (hd : (f == ("__debug__" : Str)) = false := by decide) : wpAny (model prog w) A (eval (.Name f p) env) Q E s :=
  Calls.Name_function_global hk hx (Calls.loadGlobal_builtin G.g h1 G.b h2 hQ) hd
theorem name_g {f : Str} {p : Pos} {v : Value} {E : Value → Shared → Prop} {Q : Value → Shared → Prop} (hk : env.scope.kind = .function) (hx : env.kindOf f = some .globalImplicit) (G : Glb env s mg mb) (h1 : mg f = some v) (hQ : Q v s)
    (hd : (f == ("__debug__" : Str)) = false := by decide) : wpAny (model prog w) A (eval (.Name f p) env) Q E s :=
  Calls.Name_function_global hk hx (Calls.loadGlobal_global G.g h1 hQ) hd

/-- a call's contract, from any later state -/
def Cn (prog : Program) (w : World) (A : Around) (s : Shared) (f : Value) (args : List PV) (P : Post) : Prop :=
  ∀ (K : Addr → Prop) vs (s' : Shared) (E : Value → Shared → Prop) (Q : Value → Shared → Prop), Keeps s s' → RpL K args vs s'.heap → (∀ v s'', Keeps s' s'' → P (Nw K s') v s''.heap → Q v s'') → wpAny (model prog w) A (call f vs) Q E s'
theorem Cn.keeps {f : Value} {args : List PV} {P : Post} {s₁ : Shared} (h : Cn prog w A s f args P) (k : Keeps s s₁) : Cn prog w A s₁ f args P := fun K vs s' E Q k' => h K vs s' E Q (kp_trans k k')

theorem nw_nw {Y : Addr → Prop} {s' s₂ : Shared} (k : Keeps s' s₂) (a : Addr) (h : Nw (Nw Y s') s₂ a) : Nw Y s' a := by
  rcases h with h | h
  · exact h
  · exact Nw.of_keeps k (.inr h)

theorem ev_call_b {f : Str} {p pos : Pos} {es : List Expr} {id : String} {l : List PV} {P : Post} (hk : env.scope.kind = .function) (hx : env.kindOf f = some .globalImplicit) (G : Glb env s mg mb) (h1 : mg f = none) (h2 : mb f = some (.builtin id))
    (ha : EvL prog w A env s Y pos es l) (hc : Cn prog w A s (.builtin id) l P) (hP : P.Ok) (hd : (f == ("__debug__" : Str)) = false := by decide)
    (hsh : ∃ x rest, backTo pos (starEach es env) = (false, x) :: rest := by exact ⟨_, _, rfl⟩) (hpl : (backTo pos (starEach es env)).any (·.1) = false := by rfl) :
    Ev prog w A env s Y (.Call (.Name f p) es [] pos) P := by
  intro s' E Q k hQ
  refine wpAny_Call_Name_kw (name_b hk hx (G.keeps k) h1 h2 ?_ hd)
  refine Calls.callWith_builtin hpl ?_
  obtain ⟨x, rest, e⟩ := hsh
  have ha' := ha
  unfold EvL at ha'
  rw [e] at ha' ⊢
  refine Calls.evalArgs_plain (ha' s' E _ k fun vs s₁ k₁ h₁ => ?_)
  exact hc (Nw Y s') vs s₁ E Q (kp_trans k k₁) h₁ fun v s₂ k₂ h₂ => hQ v s₂ (kp_trans k₁ k₂) (hP _ _ _ _ _ h₂ (nw_nw k₁) (Up.refl _))
theorem ev_call_d {f : Str} {p pos : Pos} {es : List Expr} {a : Addr} {o : Obj} {fd : FuncData} {l : List PV} {P : Post} (hk : env.scope.kind = .function) (hx : env.kindOf f = some .globalImplicit) (G : Glb env s mg mb) (h1 : mg f = some (.ref a))
    (ho : s.heap.get? a = some o) (hf : o.data = .func fd)
    (ha : EvL prog w A env s Y pos es l) (hc : Cn prog w A s (.ref a) l P) (hP : P.Ok) (hd : (f == ("__debug__" : Str)) = false := by decide)
    (hsh : ∃ x rest, backTo pos (starEach es env) = (false, x) :: rest := by exact ⟨_, _, rfl⟩) :
    Ev prog w A env s Y (.Call (.Name f p) es [] pos) P := by
  intro s' E Q k hQ
  refine wpAny_Call_Name_kw (name_g hk hx (G.keeps k) h1 ?_ hd)
  refine Calls.callWith_function (o := o) (fd := fd) ?_
  obtain ⟨x, rest, e⟩ := hsh
  have ha' := ha
  unfold EvL at ha'
  rw [e] at ha' ⊢
  refine Calls.evalArgs_plain (ha' s' E _ k fun vs s₁ k₁ h₁ => ⟨⟨kp_up (kp_trans k k₁) _ _ ho, hf⟩, ?_⟩)
  exact hc (Nw Y s') vs s₁ E Q (kp_trans k k₁) h₁ fun v s₂ k₂ h₂ => hQ v s₂ (kp_trans k₁ k₂) (hP _ _ _ _ _ h₂ (nw_nw k₁) (Up.refl _))

/-- the end of a quiet def: a frame state whose rest is the caller's -/
def SmOf (s : Shared) (g : Array GenState) (d : Drawn) (o : OsState) : Prop := g = s.gens ∧ d = s.drawn ∧ o = s.os
theorem LS.back {base : Shared} {ρ : Str → Option PV} {N : Addr → Prop} (h : LS env base (fun _ => False) (SmOf base) N ρ s) : Keeps base s := by
  obtain ⟨hp, g, d, t, o⟩ := s
  obtain ⟨rfl, rfl, rfl⟩ := h.same
  exact ⟨hp, t, rfl, fun b o e => h.keep b o e (fun x => x)⟩
/-- entering a def of plain names: all of them held by the call's own table -/
theorem LS.start {h₁ : Heap} {L : Addr} {tk : Nat} {m : Str → Option Value} {base : Shared} {ρ : Str → Option PV} (hL : env.locals = L) (hc : env.cells = []) (F : Fr base.heap L h₁ m)
    (hρ : ∀ x pv, ρ x = some pv → ∃ v, m x = some v ∧ ∃ K, Rp K pv v base.heap) : LS env base (fun _ => False) (SmOf base) (fun _ => False) ρ { base with heap := h₁, toks := tk } := by
  refine ⟨fun _ h => h.elim, ⟨rfl, rfl, rfl⟩, fun b o e _ => F.keep b o e, ⟨m, hL ▸ F.ns, fun x _ pv e => ?_⟩, fun x c e => ?_⟩
  · obtain ⟨v, h1, K, h2⟩ := hρ x pv e
    exact ⟨v, h1, (Rp.up h2 F.keep).kn (s := { base with heap := h₁, toks := tk }) fun _ _ h => h⟩
  · rw [hc] at e; cases e
end
end Mine
namespace Mine
section
variable {prog : Program} {w : World} {A : Around} {env : Env} {s : Shared} {Y : Addr → Prop}
theorem RpL.append {K : Addr → Prop} : ∀ {a b : List PV} {x y : List Value} {h : Heap}, RpL K a x h → RpL K b y h → RpL K (a ++ b) (x ++ y) h
  | [], _, _, _, _, p, q => by rw [p.inv_nil]; exact q
  | _ :: _, _, _, _, _, p, q => by obtain ⟨v, vs, rfl, r, t⟩ := p.inv; exact .cons r (t.append q)
theorem ev_cat {l r : Expr} {pos : Pos} {a b : List PV} (hl : Ev prog w A env s Y l (fun K => Rp K (.list a))) (hr : Ev prog w A env s Y r (fun K => Rp K (.list b))) (hz : a.length + b.length ≤ sizeLine) :
    Ev prog w A env s Y (.BinOp l .Add r pos) (fun K => Rp K (.list (a ++ b))) :=
  ev_bin hl hr (fun K va vb s' E Q _ ha hb hQ => by
    obtain ⟨p, vs, rfl, hK, hp, hL⟩ := ha.inv_list
    obtain ⟨q, ws, rfl, hK2, hp2, hL2⟩ := hb.inv_list
    obtain ⟨n, ho⟩ := hp
    obtain ⟨n2, ho2⟩ := hp2
    have hsz : vs.toArray.size + ws.toArray.size ≤ sizeLine := by simp only [List.size_toArray, hL.length, hL2.length]; exact hz
    refine concat_meets ⟨_, ho, rfl⟩ ⟨_, ho2, rfl⟩ noFill_list_add seq_list_add PySem.F.slot_list_add PySem.F.entry_list_add (PySem.F.args_list_add_2 _ _) (list_addW p q vs.toArray ws.toArray n n2 none none #[] #[] hsz) ⟨ho, ho2, ?_⟩
    have up : Up s'.heap (s'.heap.push { cls := .type "list", data := .seq (vs.toArray ++ ws.toArray) }) := fun b o e => Heap.get?_push_of_some _ e
    refine hQ _ _ (kp_mk up) (rp_list (its := vs ++ ws) (.inr (Heap.get?_none_of_le (Nat.le_refl _))) ⟨0, ?_⟩ (((hL.append hL2).up up).mono fun a ha => .inl ha))
    have := Heap.get?_push_size s'.heap (o := { cls := .type "list", data := .seq (vs.toArray ++ ws.toArray) }) rfl
    simpa using this) (Rp.ok _)
/-- an item of a list -/
theorem ev_item {value slice : Expr} {pos : Pos} {l : List PV} {k : Int} {pv : PV} (hl : Ev prog w A env s Y value (fun K => Rp K (.list l))) (hi : Ev prog w A env s Y slice (fun K => Rp K (.int k))) (h0 : 0 ≤ k) (hk : l[k.toNat]? = some pv) (hz : l.length ≤ sizeLine)
    (hs : ∀ o i, subscripted slice false o i = operate [o, i] (getItem o i) := by intro _ _; with_unfolding_all rfl) :
    Ev prog w A env s Y (.Subscript value slice pos) (fun K => Rp K pv) := by
  intro s' E Q k' hQ
  refine Subscript_ (hl s' E _ k' fun o s₁ k₁ h₁ => hi s₁ E _ (kp_trans k' k₁) fun i s₂ k₂ h₂ => ?_)
  obtain ⟨t, rfl⟩ := h₂.inv_int
  obtain ⟨a, its, rfl, hK, hp, hL⟩ := (h₁.up (kp_up k₂)).inv_list
  obtain ⟨v, hv, hr⟩ := hL.get' hk
  have hlt : k.toNat < l.length := (List.getElem?_eq_some_iff.mp hk).1
  have hfit : k < 2 ^ 63 := by rw [sizeLine_eq] at hz; omega
  exact tail_any hp.isList.typeIs slot_list_getitem.lookup (wpAny_getItem_list hp.isList h0 hfit (by simpa using hv) (hQ v s₂ (kp_trans k₁ k₂) hr)) (hs _ _)
/-- a sign of a text -/
theorem ev_sign {value slice : Expr} {pos : Pos} {x : Str} {k : Int} {c : Nat} (hl : Ev prog w A env s Y value (fun K => Rp K (.str x))) (hi : Ev prog w A env s Y slice (fun K => Rp K (.int k)))
    (hr : (decide (k < -(2 ^ 63 : Int)) || decide (k ≥ 2 ^ 63)) = false) (hc : (seqIndex? k x.length).bind (x.cps[·]?) = some c)
    (hs : ∀ o i, subscripted slice false o i = operate [o, i] (getItem o i) := by intro _ _; with_unfolding_all rfl) :
    Ev prog w A env s Y (.Subscript value slice pos) (fun K => Rp K (.str ⟨#[c]⟩)) := by
  intro s' E Q k' hQ
  refine Subscript_ (hl s' E _ k' fun o s₁ k₁ h₁ => hi s₁ E _ (kp_trans k' k₁) fun i s₂ k₂ h₂ => ?_)
  obtain ⟨t, rfl⟩ := h₂.inv_int
  obtain ⟨u, rfl⟩ := h₁.inv_str
  exact tail_any (T := "str") (by first | exact rfl | exact ⟨_, rfl⟩) slot_str_getitem.lookup (getItem_str hr hc (hQ _ _ (kp_trans (kp_trans k₁ k₂) (kp_tok _ _)) (rp_str ..))) (hs _ _)
theorem ev_addS {l r : Expr} {pos : Pos} {a b : Str} (hl : Ev prog w A env s Y l (fun K => Rp K (.str a))) (hr : Ev prog w A env s Y r (fun K => Rp K (.str b))) (hz : a.length + b.length ≤ sizeLine) :
    Ev prog w A env s Y (.BinOp l .Add r pos) (fun K => Rp K (.str (a ++ b))) :=
  ev_bin hl hr (fun K va vb s' E Q _ ha hb hQ => by
    obtain ⟨t, rfl⟩ := ha.inv_str
    obtain ⟨u, rfl⟩ := hb.inv_str
    exact PyProof.Rows.add_str (fun t' tk => hQ _ _ (kp_tok _ _) (rp_str ..)) hz) (Rp.ok _)
theorem ev_mulS {l r : Expr} {pos : Pos} {a : Str} {n : Int} (hl : Ev prog w A env s Y l (fun K => Rp K (.str a))) (hr : Ev prog w A env s Y r (fun K => Rp K (.int n))) (hz : MulOk a n) :
    Ev prog w A env s Y (.BinOp l .Mult r pos) (fun K => Rp K (.str (Txt.mul a n))) :=
  ev_bin hl hr (fun K va vb s' E Q _ ha hb hQ => by
    obtain ⟨t, rfl⟩ := ha.inv_str
    obtain ⟨u, rfl⟩ := hb.inv_int
    exact SB.mul hz (fun t' tk => hQ _ _ (kp_tok _ _) (rp_str ..))) (Rp.ok _)
theorem ev_fdiv {l r : Expr} {pos : Pos} {a b : Int} (hl : Ev prog w A env s Y l (fun K => Rp K (.int a))) (hr : Ev prog w A env s Y r (fun K => Rp K (.int b))) (hb : b ≠ 0) (hp : Builtin.divisionGoesByPylong a b = false) : Ev prog w A env s Y (.BinOp l .FloorDiv r pos) (fun K => Rp K (.int (a.fdiv b))) :=
  ev_binI hl hr fun _ _ _ _ _ h => floordiv_int hb h (.inl hp)
theorem lt_tst {l r : Expr} {pos : Pos} {a b : Int} (hl : Ev prog w A env s Y l (fun K => Rp K (.int a))) (hr : Ev prog w A env s Y r (fun K => Rp K (.int b))) (hm : behindInMarks .Lt r = false := by with_unfolding_all rfl) : Tst prog w A env s (.Compare l [.Lt] [r] pos) (decide (a < b)) :=
  tst_cmp hl hr (fun K va vb s' E Q _ ha hb hQ => by
    obtain ⟨t, rfl⟩ := ha.inv_int
    obtain ⟨u, rfl⟩ := hb.inv_int
    exact PyProof.Rows.lt_int (hQ s' (kp_refl _))) hm

section
variable {base : Shared} {X : Addr → Prop} {Sm : Array GenState → Drawn → OsState → Prop} {ρ : Str → Option PV} {N : Addr → Prop}
theorem ex_assign {x : Str} {px pos : Pos} {e : Expr} {rest : List Stmt} {pv : PV} {E : Value → Shared → Prop} {Q : Flow → Shared → Prop} (F : FrameAt env base) (h : LS env base X Sm N ρ s)
    (hk : env.kindOf x = some .local ∨ (env.kindOf x = some .cell ∧ (env.cells.lookup x).isSome = true)) (he : Ev prog w A env s (Kn N s) e (fun K => Rp K pv))
    (hs : swapsWith e (some (.Name x px)) pos.line env = pure false) (hQ : ∀ s', LS env base X Sm N (set ρ x pv) s' → wpAny (model prog w) A (execs rest env) Q E s') : wpAny (model prog w) A (execs (.Assign [.Name x px] e pos :: rest) env) Q E s :=
  wpAny_execs_cons (st_assign F h hk he (fun s' hl => hQ s' hl) hs)
theorem ex_comp {elt iter : Expr} {x : Str} {px : Pos} {ifs : List Expr} {scope : Scope} {cl : List (Str × Addr)} {pos : Pos} {l : List PV} {y : Str} {py spos : Pos} {rest : List Stmt} {E : Value → Shared → Prop} {Q : Flow → Shared → Prop}
    (F : FrameAt env base) (h : LS env base X Sm N ρ s) (hX : ∀ a, X a → (s.heap.get? a).isSome = true) (hh : A.handled = none) (hk : env.kindOf y = some .local)
    (hsw : swapsWith (.ListComp elt [⟨.Name x px, iter, ifs, 0⟩] scope pos) (some (.Name y py)) spos.line env = pure true)
    (hclos : closureFor scope env = pure cl) (hkind : scope.kind = .function) (hnames : ∀ y ∈ scope.names, y.2 = .local → scope.names.lookup y.1 = some .local)
    (hit : Ev prog w A env s (Kn N s) iter (IterOf l)) (hlen : l.length ≤ sizeLine)
    (hc : CompCells scope env x) (p : Nat → Bool) (f : Nat → PV)
    (hturn : ∀ C i pv v s₃ T (Y' : Addr → Prop), (∀ a, Kn N s a → Y' a) → (∀ a, Y' a → (s₃.heap.get? a).isSome = true) → l[i]? = some pv → Rp Y' pv v s₃.heap →
      Slot (compEnvC scope (cellsFrom (C + 1) scope.names cl) C env) x T s₃.heap (some v) → Keeps s s₃ →
      Tsts prog w A (compEnvC scope (cellsFrom (C + 1) scope.names cl) C env) s₃ ifs (p i) ∧ (p i = true → Ev prog w A (compEnvC scope (cellsFrom (C + 1) scope.names cl) C env) s₃ Y' elt (fun K => Rp K (f i))))
    (hs : ∀ x, foldedSetIterable iter env x = pure x)
    (hQ : ∀ s', LS env base X Sm N (set ρ y (.list (((List.range l.length).filter p).map f))) s' → wpAny (model prog w) A (execs rest env) Q E s') :
    wpAny (model prog w) A (execs (.Assign [.Name y py] (.ListComp elt [⟨.Name x px, iter, ifs, 0⟩] scope pos) spos :: rest) env) Q E s :=
  wpAny_execs_cons (st_comp F h hX hh hk hsw hclos hkind hnames hit hlen hc p f hturn (fun s' hl => hQ s' hl) hs)
theorem ex_ret {e : Expr} {pos : Pos} {rest : List Stmt} {P : Post} {E : Value → Shared → Prop} {Q : Flow → Shared → Prop} (he : Ev prog w A env s Y e P) (hQ : ∀ v s', Keeps s s' → P (Nw Y s) v s'.heap → Q (.ret v) s') : wpAny (model prog w) A (execs (.Return (some e) pos :: rest) env) Q E s :=
  wpAny_execs_cons (wpAny_Return_some (he s E _ (kp_refl _) fun v s' k h => hQ v s' k h))
theorem ex_if {t : Expr} {a b : List Stmt} {pos : Pos} {rest : List Stmt} {c : Bool} {E : Value → Shared → Prop} {Q : Flow → Shared → Prop} (ht : Tst prog w A env s t c)
    (hb : ∀ s', Keeps s s' → wpAny (model prog w) A (execs (if c = true then a else b) env) (fun f s'' => match f with | .next => wpAny (model prog w) A (execs rest env) Q E s'' | f => Q f s'') E s') :
    wpAny (model prog w) A (execs (.If t a b pos :: rest) env) Q E s := by
  refine wpAny_execs_cons (wpAny_If (ht s E _ (kp_refl _) fun s' k => ?_))
  have q := wpAny_mono (hb s' k) (Q' := fun f s' => match f with | .next => wpAny (model prog w) A (execs rest env) Q E s' | f => Q f s') (fun f s'' h => by cases f <;> exact h) (fun _ _ e => e)
  cases c with
  | true => exact wpAny_mono q (fun f s'' h => by cases f <;> exact h) (fun _ _ e => e)
  | false => exact wpAny_mono q (fun f s'' h => by cases f <;> exact h) (fun _ _ e => e)
end
end
end Mine
namespace Mine
section
variable {prog : Program} {w : World} {A : Around} {env : Env} {s base : Shared} {X : Addr → Prop} {Sm : Array GenState → Drawn → OsState → Prop} {ρ : Str → Option PV} {Zp : Heap → Prop}
/-- off the frame and the list at a, all stands -/
def Off2 (env : Env) (a : Addr) (h h' : Heap) : Prop := ∀ b o, b ≠ env.locals → (∀ x c, env.cells.lookup x = some c → b ≠ c) → b ≠ a → h.get? b = some o → h'.get? b = some o
def ZOk (env : Env) (a : Addr) (Zp : Heap → Prop) : Prop := ∀ h h', Zp h → Off2 env a h h' → Zp h'
/-- a frame with one list that grows: at a, its items l -/
structure LA (env : Env) (base : Shared) (X : Addr → Prop) (Sm : Array GenState → Drawn → OsState → Prop) (Zp : Heap → Prop) (a : Addr) (l : List PV) (ρ : Str → Option PV) (s : Shared) : Prop where
  ls : LS env base X Sm (fun b => b = a) ρ s
  lst : ∃ its, s.heap.PlainList a (its : List Value).toArray ∧ RpL (fun b => b ≠ a) l its s.heap
  new : base.heap.get? a = none
  z : Zp s.heap
  zok : ZOk env a Zp
theorem LA.keeps {a : Addr} {l : List PV} {s' : Shared} (h : LA env base X Sm Zp a l ρ s) (k : Keeps s s') : LA env base X Sm Zp a l ρ s' :=
  ⟨h.ls.keeps k, let ⟨its, h1, h2⟩ := h.lst; ⟨its, pl_up (kp_up k) h1, h2.up (kp_up k)⟩, h.new, h.zok _ _ h.z fun b o _ _ _ e => kp_up k b o e, h.zok⟩
theorem LA.offL {a : Addr} {l : List PV} (h : LA env base X Sm Zp a l ρ s) : a ≠ env.locals ∧ ∀ x c, env.cells.lookup x = some c → a ≠ c := by
  obtain ⟨its, ⟨n, e⟩, _⟩ := h.lst
  refine ⟨?_, ?_⟩
  · rintro rfl
    obtain ⟨m, ⟨o, es, ep, ho, hd, _⟩, _⟩ := h.ls.ns
    rw [e] at ho; cases ho; cases hd
  · rintro x c hc rfl
    obtain ⟨ov, ⟨o, ho, hd⟩, _⟩ := h.ls.cells x a hc
    rw [e] at ho; cases ho; cases hd
theorem LA.store {a : Addr} {l : List PV} {x : Str} {pv : PV} {v : Value} {K : Addr → Prop} {E : Value → Shared → Prop} {Q : Unit → Shared → Prop} (F : FrameAt env base) (h : LA env base X Sm Zp a l ρ s) (hr : Rp K pv v s.heap) (hK : ∀ b, K b → b ≠ a)
    (hk : env.kindOf x = some .local ∨ (env.kindOf x = some .cell ∧ (env.cells.lookup x).isSome = true)) (hQ : ∀ s', LA env base X Sm Zp a l (set ρ x pv) s' → Q () s') : wpAny (model prog w) A (storeName env x v) Q E s := by
  refine LS.store F h.ls hr hK hk fun s' hl ho => hQ s' ⟨hl, ?_, h.new, h.zok _ _ h.z fun b o hb hc _ e => ho b o hb hc e, h.zok⟩
  obtain ⟨its, ⟨n, e⟩, h2⟩ := h.lst
  have off := h.offL
  refine ⟨its, ⟨n, ho _ _ off.1 off.2 e⟩, h2.on fun b its' hb hp => ⟨hb, let ⟨n', e'⟩ := hp; ⟨n', ho _ _ ?_ ?_ e'⟩⟩⟩
  · rintro rfl
    obtain ⟨m, ⟨o, es, ep, ho, hd, _⟩, _⟩ := h.ls.ns
    obtain ⟨n', e'⟩ := hp
    rw [e'] at ho; cases ho; cases hd
  · rintro x c hc rfl
    obtain ⟨ov, ⟨o, ho, hd⟩, _⟩ := h.ls.cells x b hc
    obtain ⟨n', e'⟩ := hp
    rw [e'] at ho; cases ho; cases hd
theorem LA.assign {a : Addr} {l : List PV} {x : Str} {px pos : Pos} {e : Expr} {rest : List Stmt} {pv : PV} {E : Value → Shared → Prop} {Q : Flow → Shared → Prop} (F : FrameAt env base) (h : LA env base X Sm Zp a l ρ s)
    (hk : env.kindOf x = some .local ∨ (env.kindOf x = some .cell ∧ (env.cells.lookup x).isSome = true)) (he : Ev prog w A env s (Kn (fun b => b = a) s) e (fun K => Rp K pv))
    (hs : swapsWith e (some (.Name x px)) pos.line env = pure false) (hQ : ∀ s', LA env base X Sm Zp a l (set ρ x pv) s' → wpAny (model prog w) A (execs rest env) Q E s') : wpAny (model prog w) A (execs (.Assign [.Name x px] e pos :: rest) env) Q E s :=
  wpAny_execs_cons (wpAny_Assign_Name (he s E _ (kp_refl _) fun v s₁ k₁ hr => LA.store F (h.keeps k₁) hr (fun b hb => h.ls.nw (kp_refl _) hb) hk fun s' hl => hQ s' hl) hs)
/-- a turned name: x op= e, both ints -/
theorem LA.aug {a : Addr} {l : List PV} {x : Str} {px pos : Pos} {op : Operator} {e : Expr} {rest : List Stmt} {i j c : Int} {E : Value → Shared → Prop} {Q : Flow → Shared → Prop} (F : FrameAt env base) (h : LA env base X Sm Zp a l ρ s)
    (hk : env.kindOf x = some .local) (hx : ρ x = some (.int i)) (he : Ev prog w A env s (Kn (fun b => b = a) s) e (fun K => Rp K (.int j)))
    (ho : ∀ t u (s' : Shared) (E : Value → Shared → Prop) (Q : Value → Shared → Prop), Q (.int c s'.toks) { s' with toks := s'.toks + 1 } → wpAny (model prog w) A (inplaceOp op (.int i t) (.int j u)) Q E s')
    (hQ : ∀ s', LA env base X Sm Zp a l (set ρ x (.int c)) s' → wpAny (model prog w) A (execs rest env) Q E s') : wpAny (model prog w) A (execs (.AugAssign (.Name x px) op e pos :: rest) env) Q E s := by
  refine wpAny_execs_cons (wpAny_AugAssign_Name ?_)
  obtain ⟨m, hn, hm⟩ := h.ls.ns
  obtain ⟨v, hv, hr⟩ := hm x hk _ hx
  obtain ⟨t, rfl⟩ := hr.inv_int
  refine wpAny_loadName_local F.kind hk hn hv (he s E _ (kp_refl _) fun v s₁ k₁ hr => ?_)
  obtain ⟨u, rfl⟩ := hr.inv_int
  refine ho t u s₁ E _ ?_
  exact LA.store (K := fun b => b ≠ a) F (h.keeps (kp_trans k₁ (kp_tok _ _))) (rp_int ..) (fun _ h => h) (.inl hk) fun s' hl => hQ s' hl
/-- x.append(e) -/
theorem LA.append {a : Addr} {l : List PV} {x : Str} {px apos cpos pos : Pos} {e : Expr} {rest : List Stmt} {pv : PV} {E : Value → Shared → Prop} {Q : Flow → Shared → Prop} (h : LA env base X Sm Zp a l ρ s)
    (hx : VarIs env s (Kn (fun b => b = a) s) x (.ref a)) (hkf : env.scope.kind = .function) (he : Ev prog w A env s (Dm s) e (fun _ => Rp (fun b => b ≠ a) pv)) (hz : l.length ≤ sizeLine)
    (hbase : attributeBase (.Name x px) "append" env (eval (.Name x px) env) = eval (.Name x px) env)
    (hfew : ((backTo cpos (starEach [e] env)).all (fun x => !x.1) && (backToKw cpos (keywordEach [] env)).all (fun x => x.1.isSome)
      && decide (([e] : List Expr).length + ([] : List Keyword).length + (if ([] : List Keyword).isEmpty then 0 else 1) < 30)) = true)
    (hline : (apos.endLine == cpos.line) = true) (htrees : backTo cpos (starEach [e] env) = [(false, eval e env)])
    (hi : interactive env = false) (hsw : swapsWith (.Call (.Attribute (.Name x px) "append" apos) [e] [] cpos) none pos.line env = pure false)
    (hQ : ∀ s', LA env base X Sm Zp a (l ++ [pv]) ρ s' → wpAny (model prog w) A (execs rest env) Q E s') (hd : (x == ("__debug__" : Str)) = false) (hn : (x == ("__classdict__" : Str)) = false) :
    wpAny (model prog w) A (execs (.Expr (.Call (.Attribute (.Name x px) "append" apos) [e] [] cpos) pos :: rest) env) Q E s := by
  refine wpAny_execs_cons (wpAny_Expr_any ?_ hi hsw)
  refine wpAny_Call_append hbase hfew hline htrees ?_
  refine ev_var (prog := prog) (w := w) (A := A) hkf hx hd hn s E _ (kp_refl _) fun v s₁ k₁ hv => ?_
  cases hv.inv_ref
  have h₁ := h.keeps k₁
  obtain ⟨its, hp, hL⟩ := h₁.lst
  refine ⟨a, its.toArray, rfl, ?_, ?_⟩
  · obtain ⟨n, e⟩ := hp; exact ⟨_, n, e, rfl, rfl, rfl⟩
  refine he s₁ E _ k₁ fun y s₂ k₂ hy => ?_
  have h₂ := h₁.keeps k₂
  have hp₂ := pl_up (kp_up k₂) hp
  have hlen : its.toArray.size ≤ sizeLine := by rw [List.size_toArray, hL.length]; exact hz
  refine wpAny_list_append_plain (hsz := hlen) hp₂ fun h' hl' hs' => hQ _ ?_
  have hside : ∀ {p : PV} {v : Value} {K : Addr → Prop}, (∀ b, K b → b ≠ a) → Rp K p v s₂.heap → Rp K p v h' := fun hK x => x.on fun b its hb hp => ⟨hb, let ⟨n, e⟩ := hp; ⟨n, hs'.extBut _ _ (hK b hb) e⟩⟩
  have off := h₂.offL
  refine ⟨⟨?_, h₂.ls.same, ?_, ?_, ?_⟩, ⟨its ++ [y], by simpa using hl', ?_⟩, h.new, h.zok _ _ h₂.z fun b o _ _ hb e => hs'.extBut b o hb e, h.zok⟩
  · rintro b rfl; obtain ⟨n, e⟩ := hl'; rw [e]; rfl
  · exact fun b o e hb => hs'.extBut _ _ (by rintro rfl; rw [h.new] at e; cases e) (h₂.ls.keep b o e hb)
  · obtain ⟨m, hn, hm⟩ := h₂.ls.ns
    exact ⟨m, hn.at' fun o e => hs'.extBut _ _ (Ne.symm off.1) e, fun y hy q e => let ⟨v, h1, h2⟩ := hm y hy q e; ⟨v, h1, (hside (fun b hb => hb.2) h2).kn (s := { s₂ with heap := h' }) fun _ h => h.2⟩⟩
  · intro y c hc
    obtain ⟨ov, ⟨o, ho, hd⟩, hv⟩ := h₂.ls.cells y c hc
    exact ⟨ov, ⟨o, hs'.extBut _ _ (Ne.symm (off.2 y c hc)) ho, hd⟩, fun q eq => let ⟨v, h1, h2⟩ := hv q eq; ⟨v, h1, (hside (fun b hb => hb.2) h2).kn (s := { s₂ with heap := h' }) fun _ h => h.2⟩⟩
  · have hs : ∀ (b : Addr) its, b ≠ a → s₂.heap.PlainList b its → b ≠ a ∧ h'.PlainList b its := fun b its hb hp => ⟨hb, let ⟨n, e⟩ := hp; ⟨n, hs'.extBut _ _ hb e⟩⟩
    exact ((hL.up (kp_up k₂)).on hs).snoc (hy.on hs)

/-- x = [..]: a list that is to grow -/
theorem LA.start {x : Str} {px pos lp : Pos} {es : List Expr} {rest : List Stmt} {l : List PV} {E : Value → Shared → Prop} {Q : Flow → Shared → Prop} (F : FrameAt env base) (h : LS env base X Sm (fun _ => False) ρ s) (hX : ∀ b, X b → (s.heap.get? b).isSome = true)
    (hk : env.kindOf x = some .local ∨ (env.kindOf x = some .cell ∧ (env.cells.lookup x).isSome = true)) (he : EvL prog w A env s (Kn (fun _ => False) s) lp es l) (hz : l.length ≤ sizeLine)
    (hs : swapsWith (.List es lp) (some (.Name x px)) pos.line env = pure false) (hQ : ∀ s' a, LA env base X Sm (fun _ => True) a l (set ρ x (.ref a)) s' → wpAny (model prog w) A (execs rest env) Q E s') :
    wpAny (model prog w) A (execs (.Assign [.Name x px] (.List es lp) pos :: rest) env) Q E s := by
  refine wpAny_execs_cons (wpAny_Assign_Name (wpAny_List (he s E _ (kp_refl _) fun vs s₁ k₁ h₁ => ⟨by rw [h₁.length]; exact hz, ?_⟩)) hs)
  have up : Up s₁.heap (s₁.heap.push { cls := .type "list", data := .seq vs.toArray }) := fun b o e => Heap.get?_push_of_some _ e
  have L₁ := h.keeps k₁
  have fr : s₁.heap.get? s₁.heap.objs.size = none := Heap.get?_none_of_le (Nat.le_refl _)
  have ne : ∀ b o, s₁.heap.get? b = some o → b ≠ s₁.heap.objs.size := fun b o e hb => by rw [hb, fr] at e; cases e
  have hoff := LS.off F L₁ (fun b hb => by obtain ⟨o, e⟩ := Option.isSome_iff_exists.mp (hX b hb); rw [kp_up k₁ _ _ e]; rfl) fr
  have hside : ∀ {p : PV} {v : Value}, Rp (Kn (fun _ => False) s₁) p v s₁.heap → Rp (Kn (fun b => b = s₁.heap.objs.size) { s₁ with heap := s₁.heap.push { cls := .type "list", data := .seq vs.toArray } }) p v (s₁.heap.push { cls := .type "list", data := .seq vs.toArray }) := fun x =>
    x.on fun b its hb hp => ⟨⟨by obtain ⟨n, e⟩ := hp; show (Option.isSome _) = true; rw [up _ _ e]; rfl, by obtain ⟨n, e⟩ := hp; exact ne _ _ e⟩, pl_up up hp⟩
  have LN : LS env base X Sm (fun b => b = s₁.heap.objs.size) ρ { s₁ with heap := s₁.heap.push { cls := .type "list", data := .seq vs.toArray } } := by
    refine ⟨?_, L₁.same, fun b o e hb => up _ _ (L₁.keep b o e hb), ?_, ?_⟩
    · rintro b rfl
      rw [Heap.get?_push_size _ rfl]; rfl
    · obtain ⟨m, hn, hm⟩ := L₁.ns
      exact ⟨m, hn.at' fun o e => up _ _ e, fun y hy q e => let ⟨v, h1, h2⟩ := hm y hy q e; ⟨v, h1, hside h2⟩⟩
    · intro y c hc
      obtain ⟨ov, ⟨o, ho, hd⟩, hv⟩ := L₁.cells y c hc
      exact ⟨ov, ⟨o, up _ _ ho, hd⟩, fun q eq => let ⟨v, h1, h2⟩ := hv q eq; ⟨v, h1, hside h2⟩⟩
  have LA0 : LA env base X Sm (fun _ => True) s₁.heap.objs.size l ρ { s₁ with heap := s₁.heap.push { cls := .type "list", data := .seq vs.toArray } } :=
    ⟨LN, ⟨vs, ⟨0, Heap.get?_push_size _ rfl⟩, h₁.on fun b its _ hp => ⟨by obtain ⟨n, e⟩ := hp; exact ne _ _ e, pl_up up hp⟩⟩, hoff.1, trivial, fun _ _ _ _ => trivial⟩
  exact LA.store (K := fun _ => False) F LA0 (rp_ref ..) (fun _ h => h.elim) hk fun s' hl => hQ s' _ hl
/-- the list no longer grows -/
theorem LA.stop {a : Addr} {l : List PV} {x : Str} (h : LA env base X Sm Zp a l ρ s) (hx : ρ x = some (.ref a)) : LS env base X Sm (fun _ => False) (set ρ x (.list l)) s := by
  obtain ⟨its, hp, hL⟩ := h.lst
  have hl : Rp (Kn (fun _ => False) s) (.list l) (.ref a) s.heap := (rp_list (K := fun _ => True) trivial hp (hL.mono fun _ _ => trivial)).kn fun _ _ h => h
  have hside : ∀ {p : PV} {v : Value}, Rp (Kn (fun b => b = a) s) p v s.heap → Rp (Kn (fun _ => False) s) p v s.heap := fun x => x.mono fun b hb => ⟨hb.1, fun h => h⟩
  refine ⟨fun _ h => h.elim, h.ls.same, h.ls.keep, ?_, ?_⟩
  · obtain ⟨m, hn, hm⟩ := h.ls.ns
    refine ⟨m, hn, fun y hy q e => ?_⟩
    by_cases hyx : y = x
    · subst hyx
      simp only [set, if_true, Option.some.injEq] at e
      subst e
      obtain ⟨v, h1, h2⟩ := hm y hy _ hx
      cases h2.inv_ref
      exact ⟨_, h1, hl⟩
    · simp only [set, hyx, if_false] at e
      obtain ⟨v, h1, h2⟩ := hm y hy q e
      exact ⟨v, h1, hside h2⟩
  · intro y c hc
    obtain ⟨ov, ho, hv⟩ := h.ls.cells y c hc
    refine ⟨ov, ho, fun q e => ?_⟩
    by_cases hyx : y = x
    · subst hyx
      simp only [set, if_true, Option.some.injEq] at e
      subst e
      obtain ⟨v, h1, h2⟩ := hv _ hx
      cases h2.inv_ref
      exact ⟨_, h1, hl⟩
    · simp only [set, hyx, if_false] at e
      obtain ⟨v, h1, h2⟩ := hv q e
      exact ⟨v, h1, hside h2⟩

theorem LA.weaken {a : Addr} {l : List PV} {Zp' : Heap → Prop} (h : LA env base X Sm Zp' a l ρ s) (hz : ∀ h, Zp' h → Zp h) (hk : ZOk env a Zp) : LA env base X Sm Zp a l ρ s := ⟨h.ls, h.lst, h.new, hz _ h.z, hk⟩
/-- what an iterator turns does not touch the frame -/
theorem LA.step {a : Addr} {l : List PV} {Zp' : Heap → Prop} {wr : List Addr} {h' : Heap} {tk : Nat} (h : LA env base X Sm Zp a l ρ s) (hwr : ∀ b ∈ wr, (base.heap.get? b = none) ∧ ∃ o vs, s.heap.get? b = some o ∧ o.data = .fields vs)
    (hk : ∀ b o, b ∉ wr → s.heap.get? b = some o → h'.get? b = some o) (hz : Zp' h') (hzk : ZOk env a Zp') : LA env base X Sm Zp' a l ρ { s with heap := h', toks := tk } := by
  have nl : ∀ b its, s.heap.PlainList b its → b ∉ wr := fun b its ⟨n, e⟩ hb => by
    obtain ⟨_, o, vs, e', hd⟩ := hwr b hb
    rw [e] at e'; cases e'; cases hd
  have hside : ∀ {p : PV} {v : Value}, Rp (Kn (fun b => b = a) s) p v s.heap → Rp (Kn (fun b => b = a) { s with heap := h', toks := tk }) p v h' := fun x =>
    x.on fun b its hb hp => ⟨⟨by obtain ⟨n, e⟩ := id hp; show Option.isSome _ = true; rw [hk b _ (nl b its hp) e]; rfl, hb.2⟩, let ⟨n, e⟩ := id hp; ⟨n, hk b _ (nl b its hp) e⟩⟩
  obtain ⟨its, hp, hL⟩ := h.lst
  refine ⟨⟨?_, h.ls.same, ?_, ?_, ?_⟩, ⟨its, ?_, ?_⟩, h.new, hz, hzk⟩
  · rintro b rfl
    obtain ⟨n, e⟩ := id hp
    show Option.isSome _ = true
    rw [hk b _ (nl b _ hp) e]; rfl
  · exact fun b o e hb => hk b o (fun hm => by rw [(hwr b hm).1] at e; cases e) (h.ls.keep b o e hb)
  · obtain ⟨m, hn, hm⟩ := h.ls.ns
    refine ⟨m, hn.at' fun o e => hk _ _ (fun hm => ?_) e, fun y hy q e => let ⟨v, h1, h2⟩ := hm y hy q e; ⟨v, h1, hside h2⟩⟩
    obtain ⟨_, o', vs, e', hd'⟩ := hwr _ hm
    obtain ⟨o, es, ep, ho, hd, _⟩ := hn
    rw [ho] at e'; cases e'; rw [hd] at hd'; cases hd'
  · intro y c hc
    obtain ⟨ov, ⟨o, ho, hd⟩, hv⟩ := h.ls.cells y c hc
    refine ⟨ov, ⟨o, hk _ _ (fun hm => ?_) ho, hd⟩, fun q eq => let ⟨v, h1, h2⟩ := hv q eq; ⟨v, h1, hside h2⟩⟩
    obtain ⟨_, o', vs, e', hd'⟩ := hwr _ hm
    rw [ho] at e'; cases e'; rw [hd] at hd'; cases hd'
  · obtain ⟨n, e⟩ := id hp
    exact ⟨n, hk _ _ (nl _ _ hp) e⟩
  · exact hL.on fun b its hb hp => ⟨hb, let ⟨n, e⟩ := id hp; ⟨n, hk _ _ (nl _ _ hp) e⟩⟩

theorem LA.loop {a : Addr} {l : List PV} {x : Str} {px pos : Pos} {iter : Expr} {body orelse : List Stmt} {items : List PV} {E : Value → Shared → Prop} {RR : Flow → Shared → Prop}
    (F : FrameAt env base) (h : LA env base X Sm (fun _ => True) a l ρ s) (hX : ∀ b, X b → (base.heap.get? b).isSome = true ∧ (s.heap.get? b).isSome = true) (hh : A.handled = none) (hk : env.kindOf x = some .local)
    (hit : Ev prog w A env s (Kn (fun b => b = a) s) iter (IterOf items)) (hint : ∀ (i : Nat) (pv : PV), items[i]? = some pv → ∃ k, pv = PV.int k) (Inv : Nat → List PV → (Str → Option PV) → Prop) (h0 : Inv 0 l ρ)
    (hturn : ∀ i pv l ρ (Zp' : Heap → Prop) s (E' : Value → Shared → Prop), items[i]? = some pv → Inv i l ρ → LA env base X Sm Zp' a l (set ρ x pv) s →
      wpAny (model prog w) A (execs body env) (fun f s' => match f with | .next | .cont => ∃ l' ρ', Inv (i + 1) l' ρ' ∧ LA env base X Sm Zp' a l' ρ' s' | .brk => RR .next s' | .ret v => RR (.ret v) s') E' s)
    (hdone : ∀ l ρ s (E' : Value → Shared → Prop), Inv items.length l ρ → LA env base X Sm (fun _ => True) a l ρ s → wpAny (model prog w) A (execs orelse env) (fun f s' => RR f s') E' s)
    (hs : ∀ x, foldedSetIterable iter env x = pure x) :
    wpAny (model prog w) A (exec (.For (.Name x px) iter body orelse pos) env) RR E s := by
  refine wpAny_For (hit s E _ (kp_refl _) fun xv s₁ k₁ hi => ?_) hs
  have h₁ := h.keeps k₁
  refine iter_walk hh hi fun I fp wr P St h₂ W hst hfp hwr hwrS hfpK up₂ hP => ?_
  have h₂' : LA env base X Sm (fun _ => True) a l ρ { s₁ with heap := h₂ } := h₁.keeps ⟨h₂, s₁.toks, rfl, up₂⟩
  -- the iterator lies off the frame
  have offF : ∀ b ∈ fp, b ≠ env.locals ∧ (∀ x c, env.cells.lookup x = some c → b ≠ c) ∧ b ≠ a := by
    intro b hb
    obtain ⟨m, ⟨o, es, ep, ho, hd, _⟩, _⟩ := h₁.ls.ns
    obtain ⟨its, ⟨n, ea⟩, _⟩ := h₁.lst
    rcases hfpK b hb with hn | ⟨hK, its', ⟨n', eb⟩⟩
    · refine ⟨?_, ?_, ?_⟩
      · rintro rfl; rw [ho] at hn; cases hn
      · rintro x c hc rfl
        obtain ⟨ov, ⟨o', ho', _⟩, _⟩ := h₁.ls.cells x b hc
        rw [ho'] at hn; cases hn
      · rintro rfl; rw [ea] at hn; cases hn
    · refine ⟨?_, ?_, h.ls.nw (kp_refl _) hK⟩
      · rintro rfl; rw [eb] at ho; cases ho; cases hd
      · rintro x c hc rfl
        obtain ⟨ov, ⟨o', ho', hd'⟩, _⟩ := h₁.ls.cells x b hc
        rw [eb] at ho'; cases ho'; cases hd'
  have wrBase : ∀ b ∈ wr, base.heap.get? b = none := fun b hb => by
    cases e : base.heap.get? b with
    | none => rfl
    | some o =>
      have hn := hwr b hb
      by_cases hx : X b
      · obtain ⟨_, hs⟩ := hX b hx
        obtain ⟨o', e'⟩ := Option.isSome_iff_exists.mp hs
        rw [kp_up k₁ _ _ e'] at hn; cases hn
      · rw [h₁.ls.keep b o e hx] at hn; cases hn
  have zk : ∀ i, ZOk env a (St i) := fun i h h' hz ho => W.frame _ _ _ hz fun b hb o e => ho b o (offF b hb).1 (offF b hb).2.1 (offF b hb).2.2 e
  refine codeAny_forLoop (fun n s' => ∃ i l ρ, n = items.length + 1 - i ∧ i ≤ items.length ∧ Inv i l ρ ∧ LA env base X Sm (St i) a l ρ s') ?_ (items.length + 1)
    ⟨0, l, ρ, rfl, Nat.zero_le _, h0, h₂'.ls, h₂'.lst, h₂'.new, hst, zk 0⟩
  rintro n s' ⟨i, l, ρ, rfl, hin, hI, hL⟩
  have hw : ∀ b ∈ wr, (base.heap.get? b = none) ∧ ∃ o vs, s'.heap.get? b = some o ∧ o.data = .fields vs := fun b hb => ⟨wrBase b hb, hwrS i _ hL.z b hb⟩
  by_cases hlt : i < items.length
  · refine W.item i _ _ _ hlt hL.z fun v h₃ tk₃ hPv hst₃ hk₃ => ?_
    have L₃ : LA env base X Sm (St (i + 1)) a l ρ { s' with heap := h₃, toks := tk₃ } := hL.step hw hk₃ hst₃ (zk (i + 1))
    dsimp only
    refine wpAny_assign_Name ?_
    obtain ⟨pv, hpv, hr⟩ := hP i v h₂ hlt hPv up₂
    obtain ⟨k, rfl⟩ := hint i pv hpv
    obtain ⟨t, rfl⟩ := hr.inv_int
    refine LA.store (K := fun b => b ≠ a) F L₃ (rp_int ..) (fun b hb => hb) (.inl hk) fun s₄ L₄ => ?_
    refine wpAny_mono (hturn i _ l ρ _ s₄ _ hpv hI L₄) (fun f s₅ hf => ?_) (fun _ _ e => e)
    cases f with
    | next => obtain ⟨l', ρ', hI', hL'⟩ := hf; exact ⟨items.length + 1 - (i + 1), by omega, i + 1, l', ρ', rfl, hlt, hI', hL'⟩
    | cont => obtain ⟨l', ρ', hI', hL'⟩ := hf; exact ⟨items.length + 1 - (i + 1), by omega, i + 1, l', ρ', rfl, hlt, hI', hL'⟩
    | brk => exact hf
    | ret v => exact hf
  · have hi' : i = items.length := by omega
    subst hi'
    refine W.done _ _ _ hL.z fun h₃ tk₃ hk₃ => ?_
    exact hdone l ρ _ _ hI (hL.step hw hk₃ trivial h₁.zok)
end
end Mine
namespace Mine
section
variable {prog : Program} {w : World} {A : Around} {env : Env} {s : Shared} {Y : Addr → Prop}
theorem ev_meth {o : Expr} {name : Str} {apos pos : Pos} {args : List Expr} {T id : String} {P₀ P : Post} {l : List PV} (ho : Ev prog w A env s Y o P₀) (hP₀ : P₀.Ok) (hP : P.Ok)
    (hty0 : ∀ K v (s' : Shared), Keeps s s' → P₀ K v s'.heap → s'.TypeIs v T ∧ (∀ a, v = .ref a → ∃ ob, s'.heap.get? a = some ob ∧ ob.dict = none))
    (ha : EvL prog w A env s Y pos args l)
    (hc : ∀ (K : Addr → Prop) ov vs (s' : Shared) (E : Value → Shared → Prop) (Q : Value → Shared → Prop), Keeps s s' → P₀ K ov s'.heap → RpL K l vs s'.heap → (∀ v s'', Keeps s' s'' → P (Nw K s') v s''.heap → Q v s'') → wpAny (model prog w) A (call (.builtin id) (ov :: vs)) Q E s')
    (hbase : attributeBase o name env (eval o env) = eval o env)
    (hfew : ((backTo pos (starEach args env)).all (fun x => !x.1) && (backToKw pos (keywordEach [] env)).all (fun x => x.1.isSome)
      && decide (args.length + ([] : List Keyword).length + (if ([] : List Keyword).isEmpty then 0 else 1) < 30)) = true)
    (hline : (apos.endLine == pos.line) = true) (pa : PlainAttrs T) (slot : PySem.Slot T name id) (hty : typeOf (.builtin id) = pure (.type "method_descriptor"))
    (hsh : ∃ x rest, backTo pos (starEach args env) = (false, x) :: rest) (hpl : (backTo pos (starEach args env)).any (·.1) = false) :
    Ev prog w A env s Y (.Call (.Attribute o name apos) args [] pos) P := by
  intro s' E Q k hQ
  refine wpAny_Call_method hbase hfew hline pa slot hty (ho s' E _ k fun ov s₁ k₁ h₁ => ⟨(hty0 _ ov s₁ (kp_trans k k₁) h₁).1, (hty0 _ ov s₁ (kp_trans k k₁) h₁).2, ?_⟩)
  refine Calls.callWith_builtin hpl ?_
  obtain ⟨x, rest, e⟩ := hsh
  have ha' := ha
  unfold EvL at ha'
  rw [e] at ha' ⊢
  refine Calls.evalArgs_plain (ha' s₁ E _ (kp_trans k k₁) fun vs s₂ k₂ h₂ => ?_)
  exact hc (Nw Y s') ov vs s₂ E Q (kp_trans (kp_trans k k₁) k₂) (hP₀ _ _ _ _ _ h₁ (fun _ h => h) (kp_up k₂)) (h₂.mono fun a ha => Nw.of_keeps k₁ ha) fun v s₃ k₃ h₃ => hQ v s₃ (kp_trans (kp_trans k₁ k₂) k₃) (hP _ _ _ _ _ h₃ (nw_nw (kp_trans k₁ k₂)) (Up.refl _))
theorem sh1 {pos : Pos} {e : Expr} (he : starEach [e] env = [(false, eval e env)]) : (∃ x rest, backTo pos (starEach [e] env) = (false, x) :: rest) ∧ (backTo pos (starEach [e] env)).any (·.1) = false := by
  rw [he]; exact ⟨⟨_, _, rfl⟩, rfl⟩
theorem tst_int {e : Expr} {i : Int} (he : Ev prog w A env s Y e (fun K => Rp K (.int i))) (hi : ∀ whole, isTrue e env whole = (do let v ← whole; standAt e.pos; holding [v] (truthy v)) := by intro _; rfl) : Tst prog w A env s e (i != 0) :=
  tst_val he (fun K v s' E Q hr h => by obtain ⟨t, rfl⟩ := hr.inv_int; exact PyProof.Rows.truthy_int h) hi
theorem ev_shl {l r : Expr} {pos : Pos} {a b : Int} (hl : Ev prog w A env s Y l (fun K => Rp K (.int a))) (hr : Ev prog w A env s Y r (fun K => Rp K (.int b))) (hb : 0 ≤ b) (h2 : b ≤ 1000000) (ha : a.natAbs < 2 ^ 64) : Ev prog w A env s Y (.BinOp l .LShift r pos) (fun K => Rp K (.int (a * 2 ^ b.toNat))) :=
  ev_binI hl hr fun _ _ _ _ _ h => lshift_int_small hb h2 ha h
theorem ev_range {f : Str} {p pos : Pos} {e : Expr} {n : Nat} {mg mb : Str → Option Value} (hk : env.scope.kind = .function) (hx : env.kindOf f = some .globalImplicit) (G : Glb env s mg mb) (h1 : mg f = none) (h2 : mb f = some (.type "range"))
    (he : Ev prog w A env s Y e (fun K => Rp K (.int n))) (hn : n ≤ 1000) (hs : starEach [e] env = [(false, eval e env)]) (hd : (f == ("__debug__" : Str)) = false) :
    Ev prog w A env s Y (.Call (.Name f p) [e] [] pos) (IterOf ((List.range n).map (fun (i : Nat) => PV.int i))) := by
  intro s' E Q k hQ
  refine wpAny_Call_NameR (name_b hk hx (G.keeps k) h1 h2 ?_ hd)
  rw [hs]
  refine PySem.callWith_type rfl (Calls.evalArgs_plain (Calls.spliced_cons (he s' E _ k fun v s₁ k₁ h₁ => Calls.spliced_nil ?_)))
  obtain ⟨t, rfl⟩ := h₁.inv_int
  refine call_range_1 ?_
  refine hQ _ _ (kp_trans k₁ (kp_mk fun b o e => Heap.get?_push_of_some _ e)) (.inr ⟨_, n, _, _, _, rfl, IsRange.new .., rfl, hn⟩)
end
end Mine
namespace Mine
def gf (F i : Nat) : Nat := (F >>> i) <<< i
theorem gf_zero (F : Nat) : gf F 0 = F := by simp [gf]
theorem gf_testBit (F i j : Nat) : (gf F i).testBit j = (decide (i ≤ j) && F.testBit j) := by
  unfold gf
  rw [Nat.testBit_shiftLeft]
  by_cases h : i ≤ j
  · simp [h, Nat.testBit_shiftRight, Nat.add_sub_cancel' h]
  · simp [h]
theorem gf_and (F i : Nat) : (gf F i &&& 2 ^ i != 0) = F.testBit i := by
  have e : ∀ j, (gf F i &&& 2 ^ i).testBit j = (decide (i = j) && F.testBit j) := by
    intro j
    rw [Nat.testBit_and, gf_testBit, Nat.testBit_two_pow]
    by_cases h1 : i = j
    · subst h1; simp
    · simp [h1]
  cases h : F.testBit i with
  | true =>
    have : gf F i &&& 2 ^ i ≠ 0 := by
      intro h0
      have := e i
      rw [h0, h] at this; simp at this
    simpa using this
  | false =>
    have : gf F i &&& 2 ^ i = 0 := by
      apply Nat.eq_of_testBit_eq
      intro j
      rw [e]
      by_cases h1 : i = j
      · subst h1; simp [h]
      · simp [h1]
    rw [this]; rfl
theorem gf_xor (F i : Nat) (h : F.testBit i = true) : gf F i ^^^ 2 ^ i = gf F (i + 1) := by
  apply Nat.eq_of_testBit_eq
  intro j
  rw [Nat.testBit_xor, gf_testBit, gf_testBit, Nat.testBit_two_pow]
  by_cases h1 : i = j
  · subst h1; simp [h]
  · by_cases h2 : i ≤ j
    · have : i + 1 ≤ j := by omega
      simp [h1, h2, this]
    · have : ¬ i + 1 ≤ j := by omega
      simp [h1, h2, this]
theorem gf_skip (F i : Nat) (h : F.testBit i = false) : gf F (i + 1) = gf F i := by
  apply Nat.eq_of_testBit_eq
  intro j
  rw [gf_testBit, gf_testBit]
  by_cases h1 : i = j
  · subst h1; simp [h]
  · by_cases h2 : i ≤ j
    · have : i + 1 ≤ j := by omega
      simp [h2, this]
    · have : ¬ i + 1 ≤ j := by omega
      simp [h2, this]
theorem gf_nil (F i : Nat) (h : gf F i = 0) (j : Nat) (hj : i ≤ j) : F.testBit j = false := by
  have := gf_testBit F i j
  rw [h] at this
  simpa [hj] using this.symm
theorem bAnd_nat (a b : Nat) : Builtin.bitAnd (a : Int) (b : Int) = ((a &&& b : Nat) : Int) := by
  first | rfl | (unfold Builtin.bitAnd; simp)
theorem gf_andT (F i : Nat) (h : F.testBit i = true) : gf F i &&& 2 ^ i = 2 ^ i := by
  apply Nat.eq_of_testBit_eq
  intro j
  rw [Nat.testBit_and, gf_testBit, Nat.testBit_two_pow]
  by_cases h1 : i = j
  · subst h1; simp [h]
  · simp [h1]
theorem gf_step (F i : Nat) (h : F.testBit i = true) : gf F i = gf F (i + 1) + 2 ^ i := by
  unfold gf
  rw [Nat.shiftLeft_eq, Nat.shiftLeft_eq, Nat.shiftRight_eq_div_pow, Nat.shiftRight_eq_div_pow]
  have hb : F / 2 ^ i % 2 = 1 := by
    have := Nat.testBit_eq_decide_div_mod_eq (x := F) (i := i)
    rw [h] at this
    simpa using this.symm
  have e : F / 2 ^ (i + 1) = F / 2 ^ i / 2 := by rw [Nat.pow_succ, Nat.div_div_eq_div_mul]
  rw [e, Nat.pow_succ]
  generalize F / 2 ^ i = q at *
  have : q = 2 * (q / 2) + 1 := by omega
  generalize q / 2 = r at *
  subst this
  rw [Nat.add_mul, Nat.one_mul, Nat.mul_comm 2 r, Nat.mul_assoc, Nat.mul_comm 2 (2 ^ i)]
theorem bXor_gf (F i : Nat) (h : F.testBit i = true) : Builtin.bitXor (gf F i : Int) ((2 ^ i : Nat) : Int) = (gf F (i + 1) : Int) := by
  rw [bitXor_and, bAnd_nat, gf_andT F i h]
  have := gf_step F i h
  omega
end Mine
namespace Mine
def stAt (i : Nat) : Stmt := (PySem.Challenge.pw_rl0012_01.main.body[i]?).getD (.Pass ⟨0, 0, 0, 0⟩)
def recOf : Stmt → DefRec
  | .FunctionDef name args body _ _ _ scope _ _ pos => ⟨name, args, body, scope, pos⟩
  | _ => ⟨Str.empty, default, [], default, default⟩
section
variable {prog : Program} {w : World} {A : Around} {s : Shared}
theorem wpAny_execs_of {env : Env} {E : Value → Shared → Prop} {Q : Flow → Shared → Prop} (b b' : List Stmt) (e : b = b') (h : wpAny (model prog w) A (execs b' env) Q E s) : wpAny (model prog w) A (execs b env) Q E s := e ▸ h
def nmWords : List Str := [Str.ofString "OPTIMIZED", Str.ofString "NEWLOCALS", Str.ofString "VARARGS", Str.ofString "VARKEYWORDS", Str.ofString "NESTED", Str.ofString "GENERATOR", Str.ofString "NOFREE", Str.ofString "COROUTINE", Str.ofString "ITERABLE_COROUTINE", Str.ofString "ASYNC_GENERATOR"]
abbrev digs : Str := Str.ofString "1248"
/-- the name of the flag at place n -/
def nm (n : Nat) : Str := if n < 10 then nmWords.getD n Str.empty else (Str.ofString "0x" ++ (⟨#[digs.cps.getD (n % 4) 0]⟩ : Str)) ++ Txt.mul (Str.ofString "0") ((n : Int).fdiv 4)
theorem nm_item : ∀ n : Nat, n < 10 → ((nmWords.take 8).map PV.str ++ [PV.str (Str.ofString "ITERABLE_COROUTINE"), PV.str (Str.ofString "ASYNC_GENERATOR")])[n]? = some (PV.str (nm n)) := by
  intro n h
  match n, h with
  | 0, _ | 1, _ | 2, _ | 3, _ | 4, _ | 5, _ | 6, _ | 7, _ | 8, _ | 9, _ => kernel_rfl
theorem nm_sign : ∀ n : Nat, n < 30 → (seqIndex? ((n : Int).fmod 4) digs.length).bind (digs.cps[·]?) = some (digs.cps.getD (n % 4) 0) := by decide +kernel
theorem nm_fit : ∀ n : Nat, n < 30 → (decide ((n : Int).fmod 4 < -(2 ^ 63 : Int)) || decide ((n : Int).fmod 4 ≥ 2 ^ 63)) = false := by decide +kernel
theorem nm_long : ∀ n : Nat, n < 30 → Builtin.divisionGoesByPylong n 4 = false := by decide +kernel
theorem nm_mul : ∀ n : Nat, n < 30 → MulOk (Str.ofString "0") ((n : Int).fdiv 4) := by
  have h : ∀ n : Nat, n < 30 → ((decide ((n : Int).fdiv 4 < -(2 ^ 63 : Int)) || decide ((n : Int).fdiv 4 ≥ 2 ^ 63)) = false ∧ ¬ (((Str.ofString "0").length : Int) > (2 ^ 63 - 1) / ((n : Int).fdiv 4) ∧ ¬ (n : Int).fdiv 4 < 1) ∧ Builtin.Str.tooLong ((Str.ofString "0").length * ((n : Int).fdiv 4).toNat) = false) := by decide +kernel
  intro n hn
  obtain ⟨a, b, c⟩ := h n hn
  exact ⟨a, fun h1 _ h2 => b ⟨h2, h1⟩, fun _ _ => c⟩
theorem nm_len0 (c : Nat) : (Str.ofString "0x").length + ({ cps := #[c] } : Str).length ≤ 100 := by
  have : (Str.ofString "0x").length = 2 := by decide +kernel
  rw [this]; show 2 + 1 ≤ 100; decide
theorem nm_len : ∀ n : Nat, n < 30 → (Str.ofString "0x" ++ (⟨#[digs.cps.getD (n % 4) 0]⟩ : Str)).length + (Txt.mul (Str.ofString "0") ((n : Int).fdiv 4)).length ≤ 100 := by decide +kernel
theorem frameOf {name : Str} {scope : Scope} {L a : Addr} {cd : Value} {s : Shared} (hk : scope.kind = .function) (hL : s.heap.objs.size ≤ L) : FrameAt (envOf name scope L a cd) s :=
  ⟨hk, Heap.get?_none_of_le hL, fun _ _ e => (nomatch e), fun _ _ _ e => (nomatch e), fun _ _ e => (nomatch e)⟩
set_option maxRecDepth 100000 in
set_option maxHeartbeats 1000000 in
theorem ln_cn {a : Addr} {o : Obj} {pm cd doc : Value} (ho : s.heap.get? a = some o) (hf : o.data = .func (Calls.docDef (recOf (stAt 8)).name (recOf (stAt 8)).params (recOf (stAt 8)).body (recOf (stAt 8)).scope pm cd doc))
    (hcd : s.heap.CodeRec cd (recOf (stAt 8)).name) (hl : s.heap.NoLimit) (hroom : A.depth < recursionLimit) (n : Nat) (h1 : n < 30) : Cn prog w A s (.ref a) [.int n] (fun K => Rp K (.str (nm n))) := by
  intro K vs s' E Q k hr hQ
  obtain ⟨v, vs', rfl, hv, hr'⟩ := hr.inv
  cases hr'.inv_nil
  have up := kp_up k
  refine wpAny_call (call_plain hroom (up _ _ ho) hf (hl.keeps up) (hcd.keeps up) (binds := [(Str.ofString "place", v)]) (by kernel_rfl) (locs (by kernel_rfl)) (fun h₁ F => ?_) (by kernel_rfl) (by kernel_rfl) (by kernel_rfl) (by decide +kernel))
  have FA : FrameAt (envOf (recOf (stAt 8)).name (recOf (stAt 8)).scope s'.heap.objs.size a cd) s' := frameOf rfl (Nat.le_refl _)
  have L0 := LS.start (env := envOf (recOf (stAt 8)).name (recOf (stAt 8)).scope s'.heap.objs.size a cd) (tk := s'.toks + 1) rfl rfl F (ρ := set (fun _ => none) (Str.ofString "place") (.int n)) (fun x pv e => by
    simp only [set] at e
    split at e
    · rename_i hx; subst hx; cases e; exact ⟨v, by simp, K, hv⟩
    · cases e)
  show wpAny _ _ (execs (_ :: _) _) _ _ _
  with_reducible refine ex_assign FA L0 (.inl (by kernel_rfl)) (ev_list (evl_cons ev_str (evl_cons ev_str (evl_cons ev_str (evl_cons ev_str (evl_cons ev_str (evl_cons ev_str (evl_cons ev_str (evl_cons ev_str evl_nil)))))))) (by decide)) (by kernel_rfl) fun s₁ L1 => ?_
  with_reducible refine ex_assign FA L1 (.inl (by kernel_rfl)) (ev_cat (a := (nmWords.take 8).map PV.str) (ev_var (by kernel_rfl) (L1.var (.inl (by kernel_rfl)) (by kernel_rfl)) (by decide +kernel) (by decide +kernel)) (ev_list (evl_cons ev_str (evl_cons ev_str evl_nil)) (by decide)) (by decide)) (by kernel_rfl) fun s₂ L2 => ?_
  have vP := L2.var (x := Str.ofString "place") (pv := .int n) (.inl (by kernel_rfl)) (by kernel_rfl)
  have eP : ∀ pos, Ev prog w (A.deeper (envOf (recOf (stAt 8)).name (recOf (stAt 8)).scope s'.heap.objs.size a cd)) (envOf (recOf (stAt 8)).name (recOf (stAt 8)).scope s'.heap.objs.size a cd) s₂ (Kn (fun _ => False) s₂) (.Name (Str.ofString "place") pos) (fun K => Rp K (.int n)) :=
    fun pos => ev_var (by kernel_rfl) vP (by decide +kernel) (by decide +kernel)
  have vW := L2.var (x := Str.ofString "words") (pv := .list ((nmWords.take 8).map PV.str ++ [PV.str (Str.ofString "ITERABLE_COROUTINE"), PV.str (Str.ofString "ASYNC_GENERATOR")])) (.inl (by kernel_rfl)) (by kernel_rfl)
  with_reducible refine ex_ret (Y := Kn (fun _ => False) s₂) (P := fun K => Rp K (.str (nm n))) (ev_ite (lt_tst (eP _) ev_int) (fun hc => ?_) (fun hc => ?_) (Rp.ok _)) (fun v' s₃ k₃ hv' => ?_)
  · have hn : n < 10 := by have := of_decide_eq_true hc; omega
    with_reducible exact ev_item (ev_var (by kernel_rfl) vW (by decide +kernel) (by decide +kernel)) (eP _) (by omega) (by simpa using nm_item n hn) (by decide)
  · have hn : ¬ n < 10 := by have := of_decide_eq_false hc; omega
    have e : nm n = (Str.ofString "0x" ++ (⟨#[digs.cps.getD (n % 4) 0]⟩ : Str)) ++ Txt.mul (Str.ofString "0") ((n : Int).fdiv 4) := by unfold nm; rw [if_neg hn]
    rw [e]
    have hlen := nm_len n h1
    with_reducible refine ev_addS (ev_addS ev_str (ev_sign ev_str (ev_mod (eP _) ev_int (by decide)) (nm_fit n h1) (nm_sign n h1)) (by rw [sizeLine_eq]; exact Nat.le_trans (nm_len0 _) (by decide))) (ev_mulS ev_str (ev_fdiv (eP _) ev_int (by decide) (nm_long n h1)) (nm_mul n h1)) (by rw [sizeLine_eq]; omega)
  · obtain ⟨t, rfl⟩ := hv'.inv_str
    exact hQ _ s₃ (kp_trans L2.back k₃) (rp_str ..)
end
end Mine
namespace Mine
section
variable {prog : Program} {w : World} {A : Around} {s : Shared}
def cfD : List (PyData × PyData) := [(.int 1, .str "OPTIMIZED"), (.int 2, .str "NEWLOCALS"), (.int 4, .str "VARARGS"), (.int 8, .str "VARKEYWORDS"), (.int 16, .str "NESTED"), (.int 32, .str "GENERATOR"), (.int 64, .str "NOFREE"), (.int 128, .str "COROUTINE"), (.int 256, .str "ITERABLE_COROUTINE"), (.int 512, .str "ASYNC_GENERATOR")]
def pfStrs (F n : Nat) : List Str := ((List.range n).filter F.testBit).map nm
def pf (F : Nat) : Str := if F = 0 then Str.ofString "0x0" else Txt.join (Str.ofString ", ") (pfStrs F 30)
theorem hex_nm : ∀ i : Nat, i < 30 → (Spec.lookup (.int ((2 ^ i : Nat) : Int)) cfD).getD (.str (baseText "0x" 16 ((2 ^ i : Nat) : Int))) = .str (nm i) := by
  intro i h
  match i, h with
  | 0, _ | 1, _ | 2, _ | 3, _ | 4, _ | 5, _ | 6, _ | 7, _ | 8, _ | 9, _ | 10, _ | 11, _ | 12, _ | 13, _ | 14, _ | 15, _ | 16, _ | 17, _ | 18, _ | 19, _ | 20, _ | 21, _ | 22, _ | 23, _ | 24, _ | 25, _ | 26, _ | 27, _ | 28, _ | 29, _ => kernel_rfl
  | n + 30, h => exact absurd h (by omega)
theorem flat_str {v : Value} {x : Str} (h : PyProof.V.Flat v (.str x)) : ∃ t, v = .str x t := by
  have := h default
  cases this with
  | str => exact ⟨_, rfl⟩
theorem pf_more (F : Nat) : ∀ (m k : Nat), (∀ j, m ≤ j → F.testBit j = false) → pfStrs F (m + k) = pfStrs F m
  | m, 0, _ => rfl
  | m, k + 1, h => by
    have ih := pf_more F m k h
    unfold pfStrs at ih ⊢
    rw [← Nat.add_assoc, fr_snoc, ih, h (m + k) (Nat.le_add_right _ _)]
    simp
theorem bit_lt (F i : Nat) (hF : F < 2 ^ 30) (h : F.testBit i = true) : i < 30 := by
  have := Nat.ge_two_pow_of_testBit h
  exact (Nat.pow_lt_pow_iff_right (by decide)).mp (Nat.lt_of_le_of_lt this hF)
theorem gf_big (F : Nat) (hF : F < 2 ^ 30) : gf F 32 = 0 := by
  unfold gf
  rw [Nat.shiftRight_eq_div_pow, Nat.div_eq_of_lt (Nat.lt_trans hF (by decide))]; rfl
theorem tab_keeps {d : Addr} {D : List (PyData × PyData)} {h h' : Heap} (T : IntTab prog w h d D) (u : Up h h') : IntTab prog w h' d D := by
  obtain ⟨h1, kvs, ⟨o, es, ep, ho, r⟩, fp⟩ := T
  exact ⟨h1, kvs, ⟨o, es, ep, u _ _ ho, r⟩, fp⟩
theorem rpl_strs {K : Addr → Prop} : ∀ {l : List Str} {vs : List Value} {h : Heap}, RpL K (l.map PV.str) vs h → StrsAre vs l
  | [], _, _, x => by rw [List.map_nil] at x; rw [x.inv_nil]; exact .nil
  | _ :: _, _, _, x => by
    rw [List.map_cons] at x
    obtain ⟨v, vs', rfl, h1, h2⟩ := x.inv
    obtain ⟨t, rfl⟩ := h1.inv_str
    exact .cons _ _ (rpl_strs h2)

theorem set_ne {ρ : Str → Option PV} {x y : Str} {pv : PV} (h : x ≠ y) : set ρ y pv x = ρ x := by simp [set, h]
theorem set_eq {ρ : Str → Option PV} {x : Str} {pv : PV} : set ρ x pv x = some pv := by simp [set]
theorem ev_intN {env : Env} {s : Shared} {Y : Addr → Prop} {i : Int} {n : Nat} {k : Nat} {pos : Pos} (h : i = (n : Int)) : Ev prog w A env s Y (.Constant (.int i) k pos) (fun K => Rp K (.int n)) := by subst h; exact ev_int
theorem nm_le : ∀ j : Nat, j < 32 → (nm j).length ≤ 100 := by decide +kernel
theorem sum_le {α : Type} (f : α → Nat) (c : Nat) : ∀ l : List α, (∀ x ∈ l, f x ≤ c) → (l.map f).sum ≤ c * l.length
  | [], _ => by simp
  | x :: r, h => by
    have h1 := h x List.mem_cons_self
    have h2 := sum_le f c r fun y hy => h y (List.mem_cons_of_mem _ hy)
    rw [List.map_cons, List.sum_cons, List.length_cons, Nat.mul_succ]
    omega
theorem pf_fits (F n : Nat) (hn : n ≤ 32) : ((pfStrs F n).map (·.length)).sum + (pfStrs F n).length * (Str.ofString ", ").length ≤ 16777216 := by
  have h1 : ∀ y ∈ pfStrs F n, y.length ≤ 100 := by
    intro y hy
    unfold pfStrs at hy
    obtain ⟨j, hj, rfl⟩ := List.mem_map.mp hy
    have := (List.mem_filter.mp hj).1
    exact nm_le j (by have := List.mem_range.mp this; omega)
  have h2 := sum_le (·.length) 100 (pfStrs F n) h1
  have h3 : (pfStrs F n).length ≤ 32 := by
    have := filter_len F.testBit n
    unfold pfStrs
    rw [List.length_map]; omega
  have h4 : (Str.ofString ", ").length = 2 := by decide +kernel
  rw [h4]
  omega
theorem hex_cn {s : Shared} (i : Int) (hz : (baseText "0x" 16 i).length ≤ sizeLine) : Cn prog w A s (.builtin "hex") [.int i] (fun K => Rp K (.str (baseText "0x" 16 i))) := by
  intro K vs s' E Q k hr hQ
  obtain ⟨v, vs', rfl, hv, hr'⟩ := hr.inv
  cases hr'.inv_nil
  obtain ⟨t, rfl⟩ := hv.inv_int
  exact P.hex_of_int (hQ _ _ (kp_tok _ _) (rp_str ..)) hz
theorem hex_len : ∀ i : Nat, i < 32 → (baseText "0x" 16 ((2 ^ i : Nat) : Int)).length ≤ 100 := by decide +kernel

set_option maxRecDepth 100000 in
set_option maxHeartbeats 4000000 in
theorem pf_cn {a d : Addr} {o : Obj} {pm cd doc : Value} {mg mb : Str → Option Value} (ho : s.heap.get? a = some o) (hf : o.data = .func (Calls.docDef (recOf (stAt 3)).name (recOf (stAt 3)).params (recOf (stAt 3)).body (recOf (stAt 3)).scope pm cd doc))
    (hcd : s.heap.CodeRec cd (recOf (stAt 3)).name) (hl : s.heap.NoLimit) (hroom : A.depth < recursionLimit) (hh : A.handled = none) (hg : s.heap.Ns mainGlobals mg) (hb : s.heap.Ns builtinsNs mb)
    (h1 : mg (Str.ofString "COMPILER_FLAG_NAMES") = some (.ref d)) (hT : IntTab prog w s.heap d cfD) (h2 : mg (Str.ofString "range") = none) (h3 : mb (Str.ofString "range") = some (.type "range")) (h4 : mg (Str.ofString "hex") = none) (h5 : mb (Str.ofString "hex") = some (.builtin "hex"))
    (F : Nat) (hF : F < 2 ^ 30) : Cn prog w A s (.ref a) [.int F] (fun K => Rp K (.str (pf F))) := by
  intro K vs sB E Q k hr hQ
  obtain ⟨v, vs', rfl, hv, hr'⟩ := hr.inv
  cases hr'.inv_nil
  have up := kp_up k
  refine wpAny_call (call_plain hroom (up _ _ ho) hf (hl.keeps up) (hcd.keeps up) (binds := [(Str.ofString "flags", v)]) (by kernel_rfl) (locs (by kernel_rfl)) (fun h₁ Fr₁ => ?_) (by kernel_rfl) (by kernel_rfl) (by kernel_rfl) (by decide +kernel))
  generalize hE : (envOf (recOf (stAt 3)).name (recOf (stAt 3)).scope sB.heap.objs.size a cd) = env
  have hkf : env.scope.kind = .function := by subst hE; kernel_rfl
  have kFl : env.kindOf (Str.ofString "flags") = some .local := by subst hE; kernel_rfl
  have kNm : env.kindOf (Str.ofString "names") = some .local := by subst hE; kernel_rfl
  have kFg : env.kindOf (Str.ofString "flag") = some .local := by subst hE; kernel_rfl
  have kI : env.kindOf (Str.ofString "i") = some .local := by subst hE; kernel_rfl
  have kR : env.kindOf (Str.ofString "range") = some .globalImplicit := by subst hE; kernel_rfl
  have kH : env.kindOf (Str.ofString "hex") = some .globalImplicit := by subst hE; kernel_rfl
  have kC : env.kindOf (Str.ofString "COMPILER_FLAG_NAMES") = some .globalImplicit := by subst hE; kernel_rfl
  have FA : FrameAt env sB := by subst hE; exact frameOf (by kernel_rfl) (Nat.le_refl _)
  have hnc : env.cells = [] := by subst hE; rfl
  have L0 := LS.start (env := env) (tk := sB.toks + 1) (by subst hE; rfl) hnc Fr₁ (ρ := set (fun _ => none) (Str.ofString "flags") (.int F)) (fun x pv e => by
    simp only [set] at e
    split at e
    · rename_i hx; subst hx; cases e; exact ⟨v, by simp, K, hv⟩
    · cases e)
  have Gs : ∀ s'', Keeps sB s'' → Glb env s'' mg mb := fun s'' k'' => Glb.keeps ⟨by subst hE; exact hg.keeps up, by subst hE; exact hb.keeps up⟩ k''
  have Ts : ∀ s'', Keeps sB s'' → IntTab prog w s''.heap d cfD := fun s'' k'' => tab_keeps hT (up.trans (kp_up k''))
  have hA : (A.deeper env).handled = none := hh
  show wpAny _ _ (execs (_ :: _) _) _ _ _
  with_reducible refine LA.start FA L0 (fun _ h => h.elim) (.inl kNm) evl_nil (by decide) (by subst hE; kernel_rfl) fun s₁ aN LA1 => ?_
  refine wpAny_execs_cons ?_
  refine wpAny_mono (Q := fun f s' => f = .next ∧ ∃ (Zp : Heap → Prop) (ys : List Str) (ρ : Str → Option PV), Txt.join (Str.ofString ", ") ys = pf F ∧ ((ys.map (·.length)).sum + ys.length * (Str.ofString ", ").length ≤ 16777216) ∧ LA env sB (fun _ => False) (SmOf sB) Zp aN (ys.map PV.str) ρ s' ∧ ρ (Str.ofString "names") = some (.ref aN)) ?_ (fun f s₂ hf => ?_) (fun _ _ e => e)
  · with_reducible refine LA.loop FA LA1 (fun _ h => h.elim) hA kI (ev_range hkf kR (Gs _ LA1.ls.back) (n := 32) h2 h3 (ev_intN rfl) (by decide) (se_const ..) (by decide +kernel)) (fun i pv e => ?_) (fun i l ρ => l = (pfStrs F i).map PV.str ∧ ρ (Str.ofString "flags") = some (.int (gf F i)) ∧ ρ (Str.ofString "names") = some (.ref aN) ∧ (F = 0 ∨ gf F i ≠ 0)) ⟨rfl, ?_, ?_, ?_⟩ ?_ ?_ (by intro _; kernel_rfl)
    · rw [List.getElem?_map] at e
      obtain ⟨k, _, rfl⟩ := Option.map_eq_some_iff.mp e
      exact ⟨_, rfl⟩
    · rw [gf_zero]; kernel_rfl
    · kernel_rfl
    · rw [gf_zero]; by_cases h : F = 0
      · exact .inl h
      · exact .inr h
    · intro i pv l ρ Zp' s₃ E' hi hI hL
      have hi' : i < 32 ∧ pv = .int i := by
        rw [List.getElem?_map] at hi
        obtain ⟨k, hk, rfl⟩ := Option.map_eq_some_iff.mp hi
        obtain ⟨hk1, hk2⟩ := List.getElem?_eq_some_iff.mp hk
        rw [List.length_range] at hk1
        rw [List.getElem_range] at hk2
        subst hk2
        exact ⟨hk1, rfl⟩
      obtain ⟨hi32, rfl⟩ := hi'
      obtain ⟨rfl, hFl, hNm, hne⟩ := hI
      have ne1 : Str.ofString "flags" ≠ Str.ofString "i" := by decide +kernel
      have ne2 : Str.ofString "names" ≠ Str.ofString "i" := by decide +kernel
      have ne3 : Str.ofString "flags" ≠ Str.ofString "flag" := by decide +kernel
      have ne4 : Str.ofString "names" ≠ Str.ofString "flag" := by decide +kernel
      have ne5 : Str.ofString "names" ≠ Str.ofString "flags" := by decide +kernel
      have ne6 : Str.ofString "flag" ≠ Str.ofString "flags" := by decide +kernel
      have e2i : (1 : Int) * 2 ^ ((i : Int)).toNat = ((2 ^ i : Nat) : Int) := by simp
      with_reducible refine LA.assign (pv := .int ((2 ^ i : Nat) : Int)) FA hL (.inl kFg) (e2i ▸ ev_shl ev_int (ev_var hkf (hL.ls.var (.inl kI) set_eq) (by decide +kernel) (by decide +kernel)) (by omega) (by omega) (by decide)) (by subst hE; kernel_rfl) fun s₄ hL4 => ?_
      have vFl := hL4.ls.var (x := Str.ofString "flags") (pv := .int (gf F i)) (.inl kFl) (by rw [set_ne ne3, set_ne ne1]; exact hFl)
      have vFg := hL4.ls.var (x := Str.ofString "flag") (pv := .int ((2 ^ i : Nat) : Int)) (.inl kFg) set_eq
      have eb : (Builtin.bitAnd (gf F i : Int) ((2 ^ i : Nat) : Int) != 0) = F.testBit i := by
        rw [bAnd_nat, ← gf_and F i]
        cases hq : (gf F i &&& 2 ^ i != 0) with
        | true => simp only [bne_iff_ne, ne_eq] at hq ⊢; omega
        | false => simp only [bne_eq_false_iff_eq] at hq ⊢; rw [hq]; rfl
      with_reducible refine ex_if (c := F.testBit i) (eb ▸ tst_int (ev_and (ev_var hkf vFl (by decide +kernel) (by decide +kernel)) (ev_var hkf vFg (by decide +kernel) (by decide +kernel))) (by intro _; kernel_rfl)) fun s₅ k₅ => ?_
      have hL5 := hL4.keeps k₅
      cases hbit : F.testBit i with
      | false =>
        simp only [Bool.false_eq_true, if_false]
        refine wpAny_execs_nil ?_
        refine wpAny_execs_nil ⟨_, _, ⟨?_, ?_, ?_, ?_⟩, hL5⟩
        · unfold pfStrs; rw [fr_snoc, hbit]; simp
        · rw [set_ne ne3, set_ne ne1, gf_skip F i hbit]; exact hFl
        · rw [set_ne ne4, set_ne ne2]; exact hNm
        · rw [gf_skip F i hbit]; exact hne
      | true =>
        simp only [if_true]
        have hi30 := bit_lt F i hF hbit
        have vNm := hL5.ls.var (x := Str.ofString "names") (pv := .ref aN) (.inl kNm) (by rw [set_ne ne4, set_ne ne2]; exact hNm)
        have vFg5 : VarIs env s₅ (Dm s₅) (Str.ofString "flag") (.int ((2 ^ i : Nat) : Int)) := (vFg.keeps k₅).mono fun b hb => by
          obtain ⟨o', e'⟩ := Option.isSome_iff_exists.mp hb.1
          show Option.isSome _ = true
          rw [kp_up k₅ _ _ e']; rfl
        have eFg : ∀ pos, Ev prog w (A.deeper env) env s₅ (Dm s₅) (.Name (Str.ofString "flag") pos) (fun K => Rp K (.int ((2 ^ i : Nat) : Int))) := fun pos => ev_var hkf vFg5 (by decide +kernel) (by decide +kernel)
        have G5 := Gs _ hL5.ls.back
        have hxl := hex_len i hi32
        have hxl' : (baseText "0x" 16 ((2 ^ i : Nat) : Int)).length ≤ sizeLine := by rw [sizeLine_eq]; omega
        have eHx : ∀ p pos q, Ev prog w (A.deeper env) env s₅ (Dm s₅) (.Call (.Name (Str.ofString "hex") p) [.Name (Str.ofString "flag") q] [] pos) (fun K => Rp K (.str (baseText "0x" 16 ((2 ^ i : Nat) : Int)))) := fun p pos q =>
          ev_call_b hkf kH G5 h4 h5 (evl_cons (eFg q) evl_nil) (hex_cn _ hxl') (Rp.ok _) (by decide +kernel) (sh1 (se_name ..)).1 (sh1 (se_name ..)).2
        have eGet : ∀ p ap pos p1 p2 p3 p4, (ap.endLine == pos.line) = true → Ev prog w (A.deeper env) env s₅ (Dm s₅) (.Call (.Attribute (.Name (Str.ofString "COMPILER_FLAG_NAMES") p) (Str.ofString "get") ap) [.Name (Str.ofString "flag") p1, .Call (.Name (Str.ofString "hex") p2) [.Name (Str.ofString "flag") p3] [] p4] [] pos) (fun K => Rp K (.str (nm i))) := by
          intro p ap pos p1 p2 p3 p4 hline
          have e2 : starEach [.Name (Str.ofString "flag") p1, .Call (.Name (Str.ofString "hex") p2) [.Name (Str.ofString "flag") p3] [] p4] env = [(false, eval (.Name (Str.ofString "flag") p1) env), (false, eval (.Call (.Name (Str.ofString "hex") p2) [.Name (Str.ofString "flag") p3] [] p4) env)] := by rw [se_name, se_call]; rfl
          refine ev_meth (T := "dict") (id := "dict.get") (P₀ := fun _ v h => v = .ref d ∧ IntTab prog w h d cfD) (P := fun K => Rp K (.str (nm i))) ?_ ?_ (Rp.ok _) ?_ (evl_cons (eFg p1) (evl_cons (eHx p2 p4 p3) evl_nil)) ?_ rfl (by rw [e2]; rfl) hline PySem.F.plainAttrs_dict PySem.F.slot_dict_get PySem.F.type_dict_get (by rw [e2]; exact ⟨_, _, rfl⟩) (by rw [e2]; rfl)
          · intro s₆ E₆ Q₆ k₆ hQ₆
            exact name_g hkf kC (G5.keeps k₆) h1 (hQ₆ _ _ (kp_refl _) ⟨rfl, Ts _ (kp_trans hL5.ls.back k₆)⟩) (by decide +kernel)
          · exact fun K K' v h h' x _ u => ⟨x.1, tab_keeps x.2 u⟩
          · rintro K v s₆ k₆ ⟨rfl, T6⟩
            obtain ⟨_, kvs, hdo, _⟩ := T6
            exact ⟨hdo.typeIs, hdo.mapOf.noDict⟩
          · rintro K ov vs s₆ E₆ Q₆ k₆ ⟨rfl, T6⟩ hr6 hQ6
            obtain ⟨v1, vs1, rfl, hv1, hr7⟩ := hr6.inv
            obtain ⟨v2, vs2, rfl, hv2, hr8⟩ := hr7.inv
            cases hr8.inv_nil
            obtain ⟨t1, rfl⟩ := hv1.inv_int
            obtain ⟨t2, rfl⟩ := hv2.inv_str
            refine call_get2_intTab T6 (dd := .str (baseText "0x" 16 ((2 ^ i : Nat) : Int))) (fun h => Reads.str ..) fun v hv => ?_
            rw [hex_nm i hi30] at hv
            obtain ⟨t, rfl⟩ := flat_str hv
            exact hQ6 _ _ (kp_tok _ _) (rp_str ..)
        have hlen30 : ((pfStrs F i).map PV.str).length ≤ sizeLine := by
          have := filter_len F.testBit i
          unfold pfStrs
          rw [List.length_map, List.length_map, sizeLine_eq]
          omega
        with_reducible refine LA.append (pv := .str (nm i)) hL5 vNm hkf ((eGet _ _ _ _ _ _ _ (by decide)).imp fun K v h hv => by obtain ⟨t, rfl⟩ := hv.inv_str; exact rp_str ..) hlen30 (by kernel_rfl) (by subst hE; kernel_rfl) (by decide) (by subst hE; kernel_rfl) (by subst hE; kernel_rfl) (by subst hE; kernel_rfl) (fun s₆ hL6 => ?_) (by decide +kernel) (by decide +kernel)
        have eFg6 := hL6.ls.var (x := Str.ofString "flag") (pv := .int ((2 ^ i : Nat) : Int)) (.inl kFg) set_eq
        with_reducible refine LA.aug (c := (gf F (i + 1) : Int)) FA hL6 kFl (by rw [set_ne ne3, set_ne ne1]; exact hFl) (ev_var hkf eFg6 (by decide +kernel) (by decide +kernel)) (fun t u s' E Q h => ixor_int (by rw [bXor_gf F i hbit]; exact h)) fun s₇ hL7 => ?_
        have vFl7 := hL7.ls.var (x := Str.ofString "flags") (pv := .int (gf F (i + 1))) (.inl kFl) set_eq
        have hNm7 : set (set (set ρ (Str.ofString "i") (PV.int i)) (Str.ofString "flag") (PV.int ((2 ^ i : Nat) : Int))) (Str.ofString "flags") (PV.int (gf F (i + 1))) (Str.ofString "names") = some (.ref aN) := by rw [set_ne ne5, set_ne ne4, set_ne ne2]; exact hNm
        have hls : (pfStrs F i).map PV.str ++ [PV.str (nm i)] = (pfStrs F (i + 1)).map PV.str := by unfold pfStrs; rw [fr_snoc, hbit]; simp
        rw [hls] at hL7
        with_reducible refine ex_if (tst_not (tst_int (ev_var hkf vFl7 (by decide +kernel) (by decide +kernel)) (by intro _; kernel_rfl))) fun s₈ k₈ => ?_
        have hL8 := hL7.keeps k₈
        cases hz : (!((gf F (i + 1) : Int) != 0)) with
        | true =>
          have hz0 : gf F (i + 1) = 0 := by simp only [Bool.not_eq_true', bne_eq_false_iff_eq] at hz; omega
          simp only [if_true]
          refine wpAny_execs_cons (wpAny_Break ?_)
          refine ⟨trivial, _, pfStrs F (i + 1), _, ?_, ?_, hL8, hNm7⟩
          · have hF0 : F ≠ 0 := by rintro rfl; simp at hbit
            unfold pf
            rw [if_neg hF0]
            have := pf_more F (i + 1) (29 - i) (gf_nil F (i + 1) hz0)
            rw [show i + 1 + (29 - i) = 30 by omega] at this
            rw [this]
          · exact pf_fits F (i + 1) (by omega)
        | false =>
          have hz0 : gf F (i + 1) ≠ 0 := by simp only [Bool.not_eq_false', bne_iff_ne, ne_eq] at hz; omega
          simp only [Bool.false_eq_true, if_false]
          refine wpAny_execs_nil ?_
          refine wpAny_execs_nil ?_
          refine wpAny_execs_nil ⟨_, _, ⟨rfl, set_eq, hNm7, .inr hz0⟩, hL8⟩
    · intro l ρ s₃ E' hI hL
      obtain ⟨rfl, hFl, hNm, hne⟩ := hI
      have hF0 : F = 0 := by
        rcases hne with h | h
        · exact h
        · exact absurd (gf_big F hF) (by simpa using h)
      subst hF0
      have hx0 : (baseText "0x" 16 ((gf 0 32 : Nat) : Int)) = Str.ofString "0x0" := by kernel_rfl
      have ez : ((List.range 32).map (fun (i : Nat) => PV.int i)).length = 32 := by simp
      rw [ez] at hFl hL
      have el : (pfStrs 0 32).map PV.str = [] := by kernel_rfl
      rw [el] at hL
      have vNm := hL.ls.var (x := Str.ofString "names") (pv := .ref aN) (.inl kNm) hNm
      have vFl : VarIs env s₃ (Dm s₃) (Str.ofString "flags") (.int (gf 0 32)) := (hL.ls.var (.inl kFl) hFl).mono fun b hb => hb.1
      have eHx : ∀ p pos q, Ev prog w (A.deeper env) env s₃ (Dm s₃) (.Call (.Name (Str.ofString "hex") p) [.Name (Str.ofString "flags") q] [] pos) (fun K => Rp K (.str (Str.ofString "0x0"))) := fun p pos q =>
        hx0 ▸ ev_call_b hkf kH (Gs _ hL.ls.back) h4 h5 (evl_cons (ev_var hkf vFl (by decide +kernel) (by decide +kernel)) evl_nil) (hex_cn _ (by rw [hx0]; decide +kernel)) (Rp.ok _) (by decide +kernel) (sh1 (se_name ..)).1 (sh1 (se_name ..)).2
      with_reducible refine LA.append (pv := .str (Str.ofString "0x0")) hL vNm hkf ((eHx _ _ _).imp fun K v h hv => by obtain ⟨t, rfl⟩ := hv.inv_str; exact rp_str ..) (by decide) (by kernel_rfl) (by subst hE; kernel_rfl) (by decide) (by subst hE; kernel_rfl) (by subst hE; kernel_rfl) (by subst hE; kernel_rfl) (fun s₆ hL6 => ?_) (by decide +kernel) (by decide +kernel)
      exact wpAny_execs_nil ⟨rfl, _, [Str.ofString "0x0"], _, by kernel_rfl, by decide +kernel, hL6, hNm⟩
  · obtain ⟨rfl, Zp, ys, ρ, hj, hz, hL, hN⟩ := hf
    have LE := hL.stop hN
    have vN := LE.var (x := Str.ofString "names") (pv := .list (ys.map PV.str)) (.inl kNm) set_eq
    with_reducible refine ex_ret (Y := Kn (fun _ => False) s₂) (P := fun K => Rp K (.str (pf F))) (ev_meth (T := "str") (id := "str.join") (P₀ := fun K => Rp K (.str (Str.ofString ", "))) ev_str (Rp.ok _) (Rp.ok _) ?_ (evl_cons (ev_var hkf vN (by decide +kernel) (by decide +kernel)) evl_nil) ?_ (by kernel_rfl) (by subst hE; kernel_rfl) (by decide) PySem.F.plainAttrs_str PySem.F.slot_str_join PySem.F.type_str_join (sh1 (se_name ..)).1 (sh1 (se_name ..)).2) (fun v' s₃ k₃ hv' => ?_)
    · intro K v s₃ k₃ hv
      obtain ⟨t, rfl⟩ := hv.inv_str
      exact ⟨typeIs_str _ _ _, fun _ e => nomatch e⟩
    · intro K ov vs s₃ E₃ Q₃ k₃ hv hr3 hQ3
      obtain ⟨t, rfl⟩ := hv.inv_str
      obtain ⟨v1, vs1, rfl, hv1, hr7⟩ := hr3.inv
      cases hr7.inv_nil
      obtain ⟨b, its, rfl, _, hp, hLL⟩ := hv1.inv_list
      refine join_list hp.isList (by simpa using rpl_strs hLL) hz fun t' k' => ?_
      rw [hj]
      exact hQ3 _ _ (kp_tok _ _) (rp_str ..)
    · obtain ⟨t, rfl⟩ := hv'.inv_str
      exact hQ _ s₃ (kp_trans LE.back k₃) (rp_str ..)
end
end Mine
namespace Mine
section
variable {prog : Program} {w : World} {A : Around} {s : Shared}
/-- an iterator upon a list of the heap -/
theorem list_it (hh : A.handled = none) {a : Addr} {its : Array Value} {Q : Value → Shared → Prop} {E : Value → Shared → Prop} (hl : s.heap.IsList a its)
    (h : ∀ (h' : Heap), Walks prog w A s.heap.objs.size [s.heap.objs.size, a] [s.heap.objs.size] its.size (fun i v => its[i]? = some v) (fun i h => h.IsListIter s.heap.objs.size a i ∧ h.IsList a its) → (h'.IsListIter s.heap.objs.size a 0 ∧ h'.IsList a its) →
      (∀ b ∈ [s.heap.objs.size, a], b < h'.objs.size) → Up s.heap h' → Q (.ref s.heap.objs.size) { s with heap := h' }) : wpAny (model prog w) A (pyIter (.ref a)) Q E s := by
  have hlt : a < s.heap.objs.size := by obtain ⟨o, e, _⟩ := hl; exact Heap.lt_size e
  refine wpAny_pyIter_list hl (h _ (Walks.list hh _ a (Nat.ne_of_lt hlt) its) ⟨⟨_, Heap.get?_push_size _ rfl, rfl, rfl⟩, hl.at fun o e => Heap.get?_push_of_some _ e⟩ ?_ fun b o e => Heap.get?_push_of_some _ e)
  intro b hb
  rw [Heap.size_push]
  simp only [List.mem_cons, List.not_mem_nil, or_false] at hb
  rcases hb with rfl | rfl
  · exact Nat.lt_succ_self _
  · exact Nat.lt_succ_of_lt hlt
theorem up_it {h h' : Heap} {n : Nat} (u : Up s.heap h) (hk : ∀ b o, b ∉ [n] → h.get? b = some o → h'.get? b = some o) (hn : s.heap.get? n = none) : Up s.heap h' := fun b o e => hk b o (fun hb => by
  simp only [List.mem_cons, List.not_mem_nil, or_false] at hb
  rw [hb, hn] at e; cases e) (u b o e)
theorem rpl_ints {K : Addr → Prop} : ∀ {l : List Int} {vs : List Value} {h : Heap}, RpL K (l.map PV.int) vs h → ∀ (i : Nat) (v : Value), vs[i]? = some v → ∃ t, v = Value.int (l.getD i 0) t
  | [], _, _, x, i, v, e => by rw [List.map_nil] at x; rw [x.inv_nil] at e; simp at e
  | n :: l, _, _, x, 0, v, e => by
    rw [List.map_cons] at x
    obtain ⟨u, vs', rfl, h1, h2⟩ := x.inv
    obtain ⟨t, rfl⟩ := h1.inv_int
    simp at e; exact ⟨t, by simp [e.symm]⟩
  | n :: l, _, _, x, i + 1, v, e => by
    rw [List.map_cons] at x
    obtain ⟨u, vs', rfl, h1, h2⟩ := x.inv
    simp at e
    obtain ⟨t, rfl⟩ := rpl_ints h2 i v e
    exact ⟨t, by simp⟩
/-- sum of a list of ints of the heap -/
theorem sum_ints_at (hh : A.handled = none) {a : Addr} {its : List Value} {ns : List Int} {Q : Value → Shared → Prop} {E : Value → Shared → Prop} (hl : s.heap.IsList a its.toArray) (hlen : its.length = ns.length) (hi : ∀ (i : Nat) (v : Value), its[i]? = some v → ∃ t, v = Value.int (ns.getD i 0) t)
    (hQ : ∀ t s', Keeps s s' → Q (.int ns.sum t) s') : wpAny (model prog w) A (call (.builtin "sum") [.ref a]) Q E s := by
  refine call_sum_walkG (list_it (A := A.in1) hh hl fun h' W hst hfp up => ⟨_, _, _, _, _, _, fun i => ns.getD i 0, rfl, W, hst, hfp, fun i v e => hi i v (by simpa using e), fun h'' tk t' hk => ?_⟩)
  have e : preSum (fun i => ns.getD i 0) its.toArray.size = ns.sum := by
    rw [preSum_getD, List.size_toArray, hlen, List.take_length]
  rw [e]
  exact hQ t' _ (kp_mk (up_it up hk (Heap.get?_none_of_le (Nat.le_refl _))))
theorem sum_cn (hh : A.handled = none) (ns : List Int) : Cn prog w A s (.builtin "sum") [.list (ns.map PV.int)] (fun K => Rp K (.int ns.sum)) := by
  intro K vs s' E Q k hr hQ
  obtain ⟨v, vs', rfl, hv, hr'⟩ := hr.inv
  cases hr'.inv_nil
  obtain ⟨a, its, rfl, _, hp, hL⟩ := hv.inv_list
  exact sum_ints_at hh hp.isList (by rw [hL.length, List.length_map]) (rpl_ints hL) fun t s'' k'' => hQ _ s'' k'' (rp_int ..)
/-- sum of floats and ints -/
def wd : PV → WData
  | .int i => .int i
  | .flt b => .float b
  | _ => .none
def isNum : PV → Bool
  | .int _ => true
  | .flt _ => true
  | _ => false
theorem num_is {K : Addr → Prop} {p : PV} {v : Value} {h : Heap} (hn : isNum p = true) (hr : Rp K p v h) : Flt.NumIs v (wd p) := by
  cases p with
  | int i => obtain ⟨t, rfl⟩ := hr.inv_int; exact .int i t
  | flt i => obtain ⟨t, rfl⟩ := hr.inv_flt; exact .float i t
  | _ => cases hn
theorem sumF_cn (hh : A.handled = none) (l : List PV) (hl : l.all isNum = true) (pv : PV) (hn : isNum pv = true) (hr : Num.sumInts 0 (l.map wd) = some (wd pv)) : Cn prog w A s (.builtin "sum") [.list l] (fun K => Rp K pv) := by
  intro K vs s' E Q k hr' hQ
  obtain ⟨v, vs', rfl, hv, hr''⟩ := hr'.inv
  cases hr''.inv_nil
  obtain ⟨a, its, rfl, _, hp, hL⟩ := hv.inv_list
  have hsz : its.toArray.size = (l.map wd).length := by rw [List.size_toArray, hL.length, List.length_map]
  refine Flt.call_sum_walkF hr (list_it (A := A.in1) hh hp.isList fun h' W hst hfp up => ?_)
  rw [hsz] at W
  refine ⟨_, _, _, _, _, _, rfl, W.toS, hst, hfp, fun i v e => ?_, fun s'' v' hv' hm => ?_⟩
  · obtain ⟨p, e1, e2⟩ := hL.get (by simpa using e)
    refine ⟨wd p, by rw [List.getElem?_map, e1]; rfl, num_is (List.all_eq_true.mp hl p (List.mem_of_getElem? e1)) e2⟩
  · have up' := up_it (s := s') up hm.heap (Heap.get?_none_of_le (Nat.le_refl _))
    have kk : Keeps s' s'' := by
      obtain ⟨h1, g1, d1, t1, o1⟩ := s''
      have e1 : g1 = s'.gens := hm.gens
      have e2 : d1 = s'.drawn := hm.drawn
      have e3 : o1 = s'.os := hm.os
      subst e1 e2 e3
      exact ⟨h1, t1, rfl, up'⟩
    refine hQ v' s'' kk ?_
    cases pv with
    | int i => cases hv'; exact rp_int ..
    | flt i => cases hv'; exact rp_flt ..
    | _ => cases hn
end
end Mine
namespace Mine
section
variable {prog : Program} {w : World}
/-- what the law's walk asks of the heap behind the top -/
structure Wld (prog : Program) (w : World) (mg mb : Str → Option Value) (aS : Addr) (vs : List Value) (h : Heap) : Prop where
  g : h.Ns mainGlobals mg
  b : h.Ns builtinsNs mb
  nl : h.NoLimit
  pf : ∃ a o pm cd doc, mg (Str.ofString "pretty_flags") = some (.ref a) ∧ h.get? a = some o ∧ o.data = .func (Calls.docDef (recOf (stAt 3)).name (recOf (stAt 3)).params (recOf (stAt 3)).body (recOf (stAt 3)).scope pm cd doc) ∧ h.CodeRec cd (recOf (stAt 3)).name
  cv : ∃ a o pm cd doc, mg (Str.ofString "covariance") = some (.ref a) ∧ h.get? a = some o ∧ o.data = .func (Calls.docDef (recOf (stAt 6)).name (recOf (stAt 6)).params (recOf (stAt 6)).body (recOf (stAt 6)).scope pm cd doc) ∧ h.CodeRec cd (recOf (stAt 6)).name
  ln : ∃ a o pm cd doc, mg (Str.ofString "_law_name") = some (.ref a) ∧ h.get? a = some o ∧ o.data = .func (Calls.docDef (recOf (stAt 8)).name (recOf (stAt 8)).params (recOf (stAt 8)).body (recOf (stAt 8)).scope pm cd doc) ∧ h.CodeRec cd (recOf (stAt 8)).name
  tab : ∃ d, mg (Str.ofString "COMPILER_FLAG_NAMES") = some (.ref d) ∧ IntTab prog w h d cfD
  scr : h.IsList aS vs.toArray
variable {mg mb : Str → Option Value} {aS : Addr} {vs : List Value}
theorem ns_but {P a : Addr} {m : Str → Option Value} {h h' : Heap} {oP : Obj} (hP : h.get? P = some oP) (hd : oP.data = .fields #[]) (hk : ∀ b o, h.get? b = some o → b ≠ P → h'.get? b = some o) (x : h.Ns a m) : h'.Ns a m := by
  obtain ⟨o, es, ep, ho, hd', r⟩ := x
  exact ⟨o, es, ep, hk _ _ ho (by rintro rfl; rw [hP] at ho; cases ho; rw [hd] at hd'; cases hd'), hd', r⟩
theorem cr_but {P : Addr} {cd : Value} {q : Str} {h h' : Heap} {oP : Obj} (hP : h.get? P = some oP) (hd : oP.data = .fields #[]) (hk : ∀ b o, h.get? b = some o → b ≠ P → h'.get? b = some o) (x : h.CodeRec cd q) : h'.CodeRec cd q := by
  obtain ⟨c, o, us, t, e, ho, hd', hv⟩ := x
  exact ⟨c, o, us, t, e, hk _ _ ho (by rintro rfl; rw [hP] at ho; cases ho; rw [hd] at hd'; cases hd'; simp at hv), hd', hv⟩
theorem fn_but {P a : Addr} {o : Obj} {fd : FuncData} {h h' : Heap} {oP : Obj} (hP : h.get? P = some oP) (hd : oP.data = .fields #[]) (hk : ∀ b o, h.get? b = some o → b ≠ P → h'.get? b = some o) (ho : h.get? a = some o) (hf : o.data = .func fd) : h'.get? a = some o :=
  hk _ _ ho (by rintro rfl; rw [hP] at ho; cases ho; rw [hd] at hf; cases hf)
theorem Wld.but {P : Addr} {h h' : Heap} {oP : Obj} (W : Wld prog w mg mb aS vs h) (hP : h.get? P = some oP) (hd : oP.data = .fields #[]) (hk : ∀ b o, h.get? b = some o → b ≠ P → h'.get? b = some o) : Wld prog w mg mb aS vs h' where
  g := ns_but hP hd hk W.g
  b := ns_but hP hd hk W.b
  nl := let ⟨mc, h1, h2⟩ := W.nl; ⟨mc, ns_but hP hd hk h1, h2⟩
  pf := let ⟨a, o, pm, cd, doc, h1, h2, h3, h4⟩ := W.pf; ⟨a, o, pm, cd, doc, h1, fn_but hP hd hk h2 h3, h3, cr_but hP hd hk h4⟩
  cv := let ⟨a, o, pm, cd, doc, h1, h2, h3, h4⟩ := W.cv; ⟨a, o, pm, cd, doc, h1, fn_but hP hd hk h2 h3, h3, cr_but hP hd hk h4⟩
  ln := let ⟨a, o, pm, cd, doc, h1, h2, h3, h4⟩ := W.ln; ⟨a, o, pm, cd, doc, h1, fn_but hP hd hk h2 h3, h3, cr_but hP hd hk h4⟩
  tab := by
    obtain ⟨d, h1, h2, kvs, ⟨o, es, ep, ho, hx, hdd, r⟩, fp⟩ := W.tab
    exact ⟨d, h1, h2, kvs, ⟨o, es, ep, hk _ _ ho (by rintro rfl; rw [hP] at ho; cases ho; rw [hd] at hdd; cases hdd), hx, hdd, r⟩, fp⟩
  scr := by
    obtain ⟨o, ho, hc, n, hs⟩ := W.scr
    exact ⟨o, hk _ _ ho (by rintro rfl; rw [hP] at ho; cases ho; rw [hd] at hs; cases hs), hc, n, hs⟩
theorem Wld.up {h h' : Heap} (W : Wld prog w mg mb aS vs h) (u : Up h h') : Wld prog w mg mb aS vs h' where
  g := W.g.keeps u
  b := W.b.keeps u
  nl := W.nl.keeps u
  pf := let ⟨a, o, pm, cd, doc, h1, h2, h3, h4⟩ := W.pf; ⟨a, o, pm, cd, doc, h1, u _ _ h2, h3, h4.keeps u⟩
  cv := let ⟨a, o, pm, cd, doc, h1, h2, h3, h4⟩ := W.cv; ⟨a, o, pm, cd, doc, h1, u _ _ h2, h3, h4.keeps u⟩
  ln := let ⟨a, o, pm, cd, doc, h1, h2, h3, h4⟩ := W.ln; ⟨a, o, pm, cd, doc, h1, u _ _ h2, h3, h4.keeps u⟩
  tab := let ⟨d, h1, h2⟩ := W.tab; ⟨d, h1, tab_keeps h2 u⟩
  scr := W.scr.at fun o e => u _ _ e
/-- the names of the built-in side -/
structure Bn (mg mb : Str → Option Value) : Prop where
  sum : mg (Str.ofString "sum") = none ∧ mb (Str.ofString "sum") = some (.builtin "sum")
  range : mg (Str.ofString "range") = none ∧ mb (Str.ofString "range") = some (.type "range")
  hex : mg (Str.ofString "hex") = none ∧ mb (Str.ofString "hex") = some (.builtin "hex")
  min : mg (Str.ofString "min") = none ∧ mb (Str.ofString "min") = some (.builtin "min")
  max : mg (Str.ofString "max") = none ∧ mb (Str.ofString "max") = some (.builtin "max")
  len : mg (Str.ofString "len") = none ∧ mb (Str.ofString "len") = some (.builtin "len")
  isi : mg (Str.ofString "isinstance") = none ∧ mb (Str.ofString "isinstance") = some (.builtin "isinstance")
  flt : mg (Str.ofString "float") = none ∧ mb (Str.ofString "float") = some (.type "float")
end
end Mine
namespace Mine
def valOf : Value → Int
  | .int i _ => i
  | _ => 0
section
variable {prog : Program} {w : World} {A : Around} {env : Env} {s : Shared} {Y : Addr → Prop}
theorem rpl_vals {K : Addr → Prop} {h : Heap} : ∀ (us : List Value), (∀ v ∈ us, ∃ i t, v = Value.int i t) → RpL K ((us.map valOf).map PV.int) us h
  | [], _ => .nil _
  | v :: us, hv => by
    obtain ⟨i, t, rfl⟩ := hv v List.mem_cons_self
    exact .cons (rp_int i t h) (rpl_vals us fun u hu => hv u (List.mem_cons_of_mem _ hu))
theorem pick_mem {items : Array Value} {lo hi st : Option Int} {v : Value} (h : v ∈ (slicePick items lo hi st).toList) : v ∈ items.toList := by
  unfold slicePick at h
  rw [List.toList_toArray] at h
  obtain ⟨i, _, e⟩ := List.mem_filterMap.mp h
  rw [← Array.getElem?_toList] at e
  exact List.mem_of_getElem? e
def pick4 (vs : List Value) (k : Int) : List Int := (slicePick vs.toArray (some k) none (some 4)).toList.map valOf
theorem ev_slice4 {value lo st : Expr} {sp pos : Pos} {aS : Addr} {vs : List Value} {k : Int} (hv : Ev prog w A env s Y value (fun _ v h => v = .ref aS ∧ h.IsList aS vs.toArray)) (hlo : Ev prog w A env s Y lo (fun K => Rp K (.int k)))
    (hst : Ev prog w A env s Y st (fun K => Rp K (.int 4))) (hi : ∀ v ∈ vs, ∃ i t, v = Value.int i t) (hz : vs.length ≤ 1000) (ht : ∀ o r, letTemporaryGo value o r = pure ()) :
    Ev prog w A env s Y (.Subscript value (.Slice (some lo) none (some st) sp) pos) (fun K => Rp K (.list ((pick4 vs k).map PV.int))) := by
  intro s' E Q kk hQ
  refine wpAny_Subscript_Slice_step slot_list_getitem.lookup (hv s' E _ kk fun o s₁ k₁ h₁ => wpAny_Slice (wpAny_evalPart_some (hlo s₁ E _ (kp_trans kk k₁) fun vl s₂ k₂ h₂ => wpAny_evalPart_none (wpAny_evalPart_some (hst s₂ E _ (kp_trans (kp_trans kk k₁) k₂) fun v4 s₃ k₃ h₃ => ?_))))) ht
  obtain ⟨rfl, hl⟩ := h₁
  obtain ⟨t, rfl⟩ := h₂.inv_int
  obtain ⟨u, rfl⟩ := h₃.inv_int
  have up3 : Up s₁.heap s₃.heap := (kp_up k₂).trans (kp_up k₃)
  have hl₃ : (s₃.heap.push { cls := .type "slice", data := .fields #[.int k t, .none, .int 4 u] }).IsList aS vs.toArray := hl.at fun o e => Heap.get?_push_of_some _ (up3 _ _ e)
  refine ⟨hl₃.typeIs, ?_⟩
  refine wpAny_getItem_list_slice hl₃ (Heap.IsSliceOf.new ..) (.int _ _) .none (.int _ _) (by decide) ?_ (by rw [List.size_toArray, sizeLine_eq]; omega)
  have up : Up s₃.heap ((s₃.heap.push { cls := .type "slice", data := .fields #[.int k t, .none, .int 4 u] }).push { cls := .type "list", data := .seq (slicePick vs.toArray (some k) none (some 4)) }) := fun b o e => Heap.get?_push_of_some _ (Heap.get?_push_of_some _ e)
  refine hQ _ _ (kp_trans (kp_trans (kp_trans k₁ k₂) k₃) (kp_mk up)) (rp_list (its := (slicePick vs.toArray (some k) none (some 4)).toList) (.inr ?_) ⟨0, ?_⟩ (rpl_vals _ fun v hv => hi v (by simpa using pick_mem hv)))
  · rw [Heap.size_push]
    cases e : s'.heap.get? (s₃.heap.objs.size + 1) with
    | none => rfl
    | some o => exact absurd (Heap.lt_size ((kp_up k₁).trans up3 _ _ e)) (Nat.not_lt.mpr (Nat.le_succ _))
  · have := Heap.get?_push_size (s₃.heap.push { cls := .type "slice", data := .fields #[.int k t, .none, .int 4 u] }) (o := { cls := .type "list", data := .seq (slicePick vs.toArray (some k) none (some 4)) }) rfl
    simpa using this
theorem ev_slice13 {value lo up : Expr} {sp pos : Pos} {p0 p1 p2 p3 : PV} (hv : Ev prog w A env s Y value (fun K => Rp K (.list [p0, p1, p2, p3]))) (hlo : Ev prog w A env s Y lo (fun K => Rp K (.int 1)))
    (hup : Ev prog w A env s Y up (fun K => Rp K (.int 3))) (ht : ∀ o r, letTemporaryGo value o r = pure ()) :
    Ev prog w A env s Y (.Subscript value (.Slice (some lo) (some up) none sp) pos) (fun K => Rp K (.list [p1, p2])) := by
  intro s' E Q kk hQ
  refine wpAny_Subscript_list_slice (hv s' E _ kk fun o s₁ k₁ h₁ => wpAny_evalPart_some (hlo s₁ E _ (kp_trans kk k₁) fun vl s₂ k₂ h₂ => wpAny_evalPart_some (hup s₂ E _ (kp_trans (kp_trans kk k₁) k₂) fun vu s₃ k₃ h₃ => ?_))) ht
  obtain ⟨t, rfl⟩ := h₂.inv_int
  obtain ⟨u, rfl⟩ := h₃.inv_int
  have up3 : Up s₁.heap s₃.heap := (kp_up k₂).trans (kp_up k₃)
  obtain ⟨a, its, rfl, hK, hp, hL⟩ := (h₁.up up3).inv_list
  obtain ⟨v0, r0, rfl, _, hL⟩ := hL.inv
  obtain ⟨v1, r1, rfl, q1, hL⟩ := hL.inv
  obtain ⟨v2, r2, rfl, q2, hL⟩ := hL.inv
  obtain ⟨v3, r3, rfl, _, hL⟩ := hL.inv
  cases hL.inv_nil
  refine ⟨a, _, some 1, some 3, rfl, hp.isList, (show 4 ≤ sizeLine by decide), .int _ _, .int _ _, ?_⟩
  have e : slicePick [v0, v1, v2, v3].toArray (some 1) (some 3) none = [v1, v2].toArray := by kernel_rfl
  rw [e]
  have up : Up s₃.heap ((s₃.heap.push { cls := .type "slice", data := .fields #[.int 1 t, .int 3 u, .none] }).push { cls := .type "list", data := .seq [v1, v2].toArray }) := fun b o e => Heap.get?_push_of_some _ (Heap.get?_push_of_some _ e)
  refine hQ _ _ (kp_trans (kp_trans (kp_trans k₁ k₂) k₃) (kp_mk up)) (rp_list (its := [v1, v2]) (.inr ?_) ⟨0, ?_⟩ (.cons (q1.up up) (.cons (q2.up up) (.nil _))))
  · cases e : s'.heap.get? (s₃.heap.objs.size + 1) with
    | none => rfl
    | some o => exact absurd (Heap.lt_size ((kp_up k₁).trans up3 _ _ e)) (Nat.not_lt.mpr (Nat.le_succ _))
  · have := Heap.get?_push_size (s₃.heap.push { cls := .type "slice", data := .fields #[.int 1 t, .int 3 u, .none] }) (o := { cls := .type "list", data := .seq [v1, v2].toArray }) rfl
    rw [Heap.size_push] at this
    exact this
end
end Mine
namespace Mine
def lawEnv (L fa : Addr) (cd : Value) : Env := envOfC (recOf (stAt 9)).name (recOf (stAt 9)).scope L fa cd
def lawB : List Stmt := (recOf (stAt 9)).body
def SmL (base : Shared) (g : Array GenState) (_ : Drawn) (o : OsState) : Prop := AllBare g ∧ o = base.os
structure Ctx (prog : Program) (w : World) (A : Around) (env : Env) (base : Shared) (mg mb : Str → Option Value) (aS : Addr) (vs : List Value) (L fa : Addr) (cd : Value) : Prop where
  hE : env = lawEnv L fa cd
  hh : A.handled = none
  room : A.depth < recursionLimit
  FA : FrameAt env base
  W : Wld prog w mg mb aS vs base.heap
  B : Bn mg mb
  sints : ∀ v ∈ vs, ∃ i t, v = Value.int i t
  len : vs.length ≤ 63
section
variable {prog : Program} {w : World} {A : Around} {env : Env} {base s : Shared} {mg mb : Str → Option Value} {aS : Addr} {vs : List Value} {L fa : Addr} {cd : Value} {ρ : Str → Option PV}
abbrev LW (env : Env) (base : Shared) (ρ : Str → Option PV) (s : Shared) : Prop := LS env base (fun _ => False) (SmL base) (fun _ => False) ρ s
theorem Ctx.wld (X : Ctx prog w A env base mg mb aS vs L fa cd) (h : LW env base ρ s) : Wld prog w mg mb aS vs s.heap :=
  X.W.up fun b o e => h.keep b o e fun x => x
theorem Ctx.glb (X : Ctx prog w A env base mg mb aS vs L fa cd) (h : LW env base ρ s) : Glb env s mg mb := by
  have W := X.wld h
  have e1 : env.globals = mainGlobals := by rw [X.hE]; rfl
  have e2 : env.builtins = builtinsNs := by rw [X.hE]; rfl
  exact ⟨e1 ▸ W.g, e2 ▸ W.b⟩
theorem Ctx.kf (X : Ctx prog w A env base mg mb aS vs L fa cd) : env.scope.kind = .function := X.FA.kind
/-- a name of the law's cells, in a comprehension of the law -/
theorem in_var {ce : Env} {c : Addr} {x : Str} {pv : PV} {Y Y' : Addr → Prop} {s₃ : Shared} (h : VarIs env s Y x pv) (k : Keeps s s₃) (hY : ∀ a, Y a → Y' a) (hk : env.kindOf x = some .cell) (hc : env.cells.lookup x = some c)
    (hk' : ce.kindOf x = some .cell) (hc' : ce.cells.lookup x = some c) : VarIs ce s₃ Y' x pv := ((h.keeps k).mono hY).inner (.inl hk) hc (.inl hk') hc'
theorem kn_dm {N : Addr → Prop} {s : Shared} (a : Addr) (h : Kn N s a) : (s.heap.get? a).isSome = true := h.1
def ck (vs : List Value) (k : Nat) : Int := ([3, 5, 2, 232] : List Int).getD k 0 + (pick4 vs k).sum
def cellsPV (vs : List Value) : PV := .list ((List.range 4).map fun k => .int (ck vs k))


theorem ev_compE {elt iter : Expr} {x : Str} {px : Pos} {ifs : List Expr} {scope : Scope} {cl : List (Str × Addr)} {pos : Pos} {Y : Addr → Prop} {l : List PV} {pv : PV} (hh : A.handled = none)
    (hclos : closureFor scope env = pure cl) (hkind : scope.kind = .function) (hnames : ∀ y ∈ scope.names, y.2 = .local → scope.names.lookup y.1 = some .local)
    (hY : ∀ a, Y a → (s.heap.get? a).isSome = true) (hit : Ev prog w A env s Y iter (IterOf l)) (hlen : l.length ≤ sizeLine)
    (hc : CompCells scope env x) (p : Nat → Bool) (f : Nat → PV)
    (hturn : ∀ C i pv v s₃ T (Y' : Addr → Prop), (∀ a, Y a → Y' a) → (∀ a, Y' a → (s₃.heap.get? a).isSome = true) → l[i]? = some pv → Rp Y' pv v s₃.heap →
      Slot (compEnvC scope (cellsFrom (C + 1) scope.names cl) C env) x T s₃.heap (some v) → Keeps s s₃ →
      Tsts prog w A (compEnvC scope (cellsFrom (C + 1) scope.names cl) C env) s₃ ifs (p i) ∧ (p i = true → Ev prog w A (compEnvC scope (cellsFrom (C + 1) scope.names cl) C env) s₃ Y' elt (fun K => Rp K (f i))))
    (hs : ∀ x, foldedSetIterable iter env x = pure x) (hpv : .list (((List.range l.length).filter p).map f) = pv) :
    Ev prog w A env s Y (.ListComp elt [⟨.Name x px, iter, ifs, 0⟩] scope pos) (fun K => Rp K pv) := by
  subst hpv; exact ev_comp hh hclos hkind hnames hY hit hlen hc p f hturn hs
theorem range_get {n i : Nat} {pv : PV} (h : ((List.range n).map fun (i : Nat) => PV.int i)[i]? = some pv) : i < n ∧ pv = .int i := by
  rw [List.getElem?_map] at h
  obtain ⟨k, hk, rfl⟩ := Option.map_eq_some_iff.mp h
  obtain ⟨hk1, hk2⟩ := List.getElem?_eq_some_iff.mp hk
  rw [List.length_range] at hk1
  rw [List.getElem_range] at hk2
  subst hk2
  exact ⟨hk1, rfl⟩
set_option maxRecDepth 100000 in
set_option maxHeartbeats 4000000 in
theorem law1 (X : Ctx prog w A env base mg mb aS vs L fa cd) (h : LW env base (set (fun _ => none) (Str.ofString "script") (.ref aS)) s) {E : Value → Shared → Prop} {Q : Flow → Shared → Prop}
    (hQ : ∀ s', LW env base (set (set (fun _ => none) (Str.ofString "script") (.ref aS)) (Str.ofString "cells") (cellsPV vs)) s' → wpAny (model prog w) A (execs (lawB.drop 1) env) Q E s') :
    wpAny (model prog w) A (execs lawB env) Q E s := by
  have hE := X.hE
  have kS : env.kindOf (Str.ofString "script") = some .cell := by subst hE; kernel_rfl
  have cS : env.cells.lookup (Str.ofString "script") = some (L + 1) := by subst hE; kernel_rfl
  have vS := h.var (x := Str.ofString "script") (pv := .ref aS) (.inr ⟨kS, by rw [cS]; rfl⟩) set_eq
  have G := X.glb h
  have hl : ∀ s', Keeps s s' → s'.heap.IsList aS vs.toArray := fun s' k => (X.wld (h.keeps k)).scr
  show wpAny _ _ (execs (_ :: _) _) _ _ _
  with_reducible refine ex_assign (pv := cellsPV vs) X.FA h (.inr ⟨by subst hE; kernel_rfl, by subst hE; kernel_rfl⟩) ?_ (by subst hE; kernel_rfl) (fun s' hl => ?_)
  · with_reducible refine ev_compE (cl := [(Str.ofString "script", L + 1)]) (l := (List.range 4).map fun (i : Nat) => PV.int i) X.hh (by subst hE; kernel_rfl) (by kernel_rfl) (by decide +kernel) kn_dm (ev_range X.kf (by subst hE; kernel_rfl) G (n := 4) X.B.range.1 X.B.range.2 (ev_intN rfl) (by decide) (se_const ..) (by decide +kernel)) (by decide) ?_ (fun _ => true) (fun k => .int (ck vs k)) (fun C i pv v s₃ T Y' hY hY' hi hr hsl k₃ => ⟨tsts_nil, fun _ => ?_⟩) (by intro _; kernel_rfl) (by kernel_rfl)
    · left
      subst hE
      exact ⟨fun _ _ => by kernel_rfl, fun _ => by kernel_rfl, by kernel_rfl⟩
    · obtain ⟨hi4, rfl⟩ := range_get hi
      generalize hCe : compEnvC _ _ C env = ce at hsl ⊢
      have kf : ce.scope.kind = .function := by subst hCe hE; kernel_rfl
      have vk := hsl.var hr
      have vs3 : VarIs ce s₃ Y' (Str.ofString "script") (.ref aS) := in_var vS k₃ hY kS cS (by subst hCe hE; kernel_rfl) (by subst hCe hE; kernel_rfl)
      have G3 : Glb ce s₃ mg mb := by subst hCe; exact (G.keeps k₃).comp
      have ek : ∀ pos, Ev prog w A ce s₃ Y' (.Name (Str.ofString "k") pos) (fun K => Rp K (.int i)) := fun pos => ev_var kf vk (by decide +kernel) (by decide +kernel)
      have es : ∀ pos, Ev prog w A ce s₃ Y' (.Name (Str.ofString "script") pos) (fun _ v h => v = .ref aS ∧ h.IsList aS vs.toArray) := fun pos s' E Q k' hq =>
        ev_var kf vs3 (by decide +kernel) (by decide +kernel) s' E Q k' fun v s'' k'' hv => hq v s'' k'' ⟨hv.inv_ref, hl _ (kp_trans (kp_trans k₃ k') k'')⟩
      rw [show ck vs i = ([3, 5, 2, 232] : List Int).getD i 0 + (pick4 vs i).sum from rfl]
      with_reducible refine ev_add (ev_item (l := [.int 3, .int 5, .int 2, .int 232]) (ev_list (evl_cons ev_int (evl_cons ev_int (evl_cons ev_int (evl_cons ev_int evl_nil)))) (by decide)) (ek _) (by omega) ?_ (by decide)) (ev_call_b kf (by subst hCe hE; kernel_rfl) G3 X.B.sum.1 X.B.sum.2 (evl_cons (ev_slice4 (es _) (ek _) ev_int X.sints (by have := X.len; omega) ?_) evl_nil) (sum_cn X.hh _) (Rp.ok _) (by decide +kernel) (sh1 (se_sub ..)).1 (sh1 (se_sub ..)).2)
      · match i, hi4 with
        | 0, _ | 1, _ | 2, _ | 3, _ => kernel_rfl
      · intro _ _; kernel_rfl
  · exact hQ s' hl
end
end Mine
namespace Mine
section
variable {prog : Program} {w : World} {A : Around} {env : Env} {base s : Shared} {mg mb : Str → Option Value} {aS : Addr} {vs : List Value} {L fa : Addr} {cd : Value} {ρ : Str → Option PV} {Y : Addr → Prop}
theorem LS.sub {X : Addr → Prop} {Sm : Array GenState → Drawn → OsState → Prop} {N : Addr → Prop} {ρ' : Str → Option PV} (h : LS env base X Sm N ρ s) (hs : ∀ x pv, ρ' x = some pv → ρ x = some pv) : LS env base X Sm N ρ' s :=
  ⟨h.nd, h.same, h.keep, let ⟨m, h1, h2⟩ := h.ns; ⟨m, h1, fun x hx pv e => h2 x hx pv (hs x pv e)⟩, fun x c e => let ⟨ov, h1, h2⟩ := h.cells x c e; ⟨ov, h1, fun pv e => h2 pv (hs x pv e)⟩⟩
theorem ev_neg {e : Expr} {pos : Pos} {i : Int} (h : Ev prog w A env s Y e (fun K => Rp K (.int i))) : Ev prog w A env s Y (.UnaryOp .USub e pos) (fun K => Rp K (.int (-i))) := by
  intro s' E Q k hQ
  refine wpAny_UnaryOp (h s' E _ k fun v s₁ k₁ h₁ => ?_)
  obtain ⟨t, rfl⟩ := h₁.inv_int
  exact neg_int (hQ _ _ (kp_trans k₁ (kp_tok _ _)) (rp_int ..))
theorem ev_last {value slice : Expr} {pos : Pos} {a : Addr} {its : List Value} {n : Int} {t : Tok} (hl : Ev prog w A env s Y value (fun _ v h => v = .ref a ∧ h.PlainList a its.toArray)) (hi : Ev prog w A env s Y slice (fun K => Rp K (.int (-1)))) (hk : its.getLast? = some (.int n t))
    (hs : ∀ o i, subscripted slice false o i = operate [o, i] (getItem o i)) : Ev prog w A env s Y (.Subscript value slice pos) (fun K => Rp K (.int n)) := by
  intro s' E Q k' hQ
  refine Subscript_ (hl s' E _ k' fun o s₁ k₁ h₁ => hi s₁ E _ (kp_trans k' k₁) fun i s₂ k₂ h₂ => ?_)
  obtain ⟨u, rfl⟩ := h₂.inv_int
  obtain ⟨rfl, hp⟩ := h₁
  have hp2 := pl_up (kp_up k₂) hp
  have hpos : 0 < its.length := by cases its with | nil => simp at hk | cons _ _ => simp
  refine tail_any hp2.isList.typeIs slot_list_getitem.lookup (wpAny_getItem_list_neg hp2.isList (by decide) (by simp; omega) (by decide) (x := .int n t) ?_ (hQ _ s₂ (kp_trans k₁ k₂) (rp_int ..))) (hs _ _)
  rw [List.getLast?_eq_getElem?] at hk
  rw [List.size_toArray, List.getElem?_toArray, ← hk]
  congr 1; omega
theorem IterOf.ofL {l : List PV} {K : Addr → Prop} {v : Value} {h : Heap} (x : Rp K (.list l) v h) : IterOf l K v h := .inl x
theorem sz_le {l : List PV} (n : Nat) (h : l.length = n) (hn : n ≤ 1000) : l.length ≤ sizeLine := by rw [sizeLine_eq]; omega
def pl0 (vs : List Value) : Nat := ((ck vs 0).fmod 10).toNat
def pl1 (vs : List Value) : Nat := pl0 vs + 1 + ((ck vs 1).fmod 10).toNat
def pl2 (vs : List Value) : Nat := pl1 vs + 1 + ((ck vs 2).fmod 10).toNat
theorem fm10 (c : Int) : c.fmod 10 = ((c.fmod 10).toNat : Int) ∧ (c.fmod 10).toNat < 10 := by
  have h1 := Int.fmod_nonneg_of_pos c (show (0 : Int) < 10 by decide)
  have h2 := Int.fmod_lt_of_pos c (show (0 : Int) < 10 by decide)
  omega
theorem pl_lt (vs : List Value) : pl0 vs < 10 ∧ pl0 vs < pl1 vs ∧ pl1 vs < pl2 vs ∧ pl2 vs < 30 := by
  have h0 := (fm10 (ck vs 0)).2
  have h1 := (fm10 (ck vs 1)).2
  have h2 := (fm10 (ck vs 2)).2
  unfold pl2 pl1 pl0
  omega
def plL (vs : List Value) : List Nat := [pl0 vs, pl1 vs, pl2 vs]
def nats (l : List Nat) : PV := .list (l.map fun (n : Nat) => PV.int n)
end
end Mine
namespace Mine
section
variable {prog : Program} {w : World} {A : Around} {env : Env} {base s : Shared} {mg mb : Str → Option Value} {aS : Addr} {vs : List Value} {L fa : Addr} {cd : Value} {ρ : Str → Option PV} {Y : Addr → Prop}
def r1 (aS : Addr) (vs : List Value) : Str → Option PV := set (set (fun _ => none) (Str.ofString "script") (.ref aS)) (Str.ofString "cells") (cellsPV vs)
def r2 (aS : Addr) (vs : List Value) : Str → Option PV := set (r1 aS vs) (Str.ofString "places") (nats (plL vs))
theorem pl_step (vs : List Value) {i : Nat} {pv : PV} (hi : ([.int (ck vs 1), .int (ck vs 2)] : List PV)[i]? = some pv) : ∃ (c : Int) (n m : Nat), pv = .int c ∧ ((plL vs).take (i + 1)).getLast? = some n ∧ (m : Int) = (n : Int) + 1 + c.fmod 10 ∧ ((plL vs).take (i + 1)).map (fun (n : Nat) => PV.int n) ++ [.int m] = ((plL vs).take (i + 1 + 1)).map (fun (n : Nat) => PV.int n) := by
  match i, hi with
  | 0, e => cases e; exact ⟨_, pl0 vs, pl1 vs, rfl, rfl, by unfold pl1; have := (fm10 (ck vs 1)).1; omega, rfl⟩
  | 1, e => cases e; exact ⟨_, pl1 vs, pl2 vs, rfl, rfl, by unfold pl2; have := (fm10 (ck vs 2)).1; omega, rfl⟩
theorem last_of {K : Addr → Prop} : ∀ {l : List Nat} {its : List Value} {h : Heap} {n : Nat}, RpL K (l.map fun (n : Nat) => PV.int n) its h → l.getLast? = some n → ∃ t, its.getLast? = some (.int n t)
  | [], _, _, _, _, e => by simp at e
  | [x], _, _, _, r, e => by
    obtain ⟨v, vs', rfl, h1, h2⟩ := r.inv
    cases h2.inv_nil
    obtain ⟨t, rfl⟩ := h1.inv_int
    simp at e; subst e; exact ⟨t, rfl⟩
  | x :: y :: l, _, _, _, r, e => by
    obtain ⟨v, vs', rfl, h1, h2⟩ := r.inv
    obtain ⟨t, ht⟩ := last_of (l := y :: l) h2 (by simpa using e)
    refine ⟨t, ?_⟩
    cases vs' with
    | nil => simp at ht
    | cons a b => simpa using ht
set_option maxRecDepth 100000 in
set_option maxHeartbeats 4000000 in
theorem law2 (X : Ctx prog w A env base mg mb aS vs L fa cd) (h : LW env base (r1 aS vs) s) {E : Value → Shared → Prop} {Q : Flow → Shared → Prop}
    (hQ : ∀ s', LW env base (r2 aS vs) s' → wpAny (model prog w) A (execs (lawB.drop 3) env) Q E s') :
    wpAny (model prog w) A (execs (lawB.drop 1) env) Q E s := by
  have hE := X.hE
  have kC : env.kindOf (Str.ofString "cells") = some .cell := by subst hE; kernel_rfl
  have cC : env.cells.lookup (Str.ofString "cells") = some (L + 2) := by subst hE; kernel_rfl
  have kP : env.kindOf (Str.ofString "places") = some .cell := by subst hE; kernel_rfl
  have cP : env.cells.lookup (Str.ofString "places") = some (L + 3) := by subst hE; kernel_rfl
  have kc : env.kindOf (Str.ofString "cell") = some .local := by subst hE; kernel_rfl
  have vC := h.var (x := Str.ofString "cells") (pv := .list [.int (ck vs 0), .int (ck vs 1), .int (ck vs 2), .int (ck vs 3)]) (.inr ⟨kC, by rw [cC]; rfl⟩) (by kernel_rfl)
  show wpAny _ _ (execs (_ :: _) _) _ _ _
  with_reducible refine LA.start (l := [.int (pl0 vs)]) X.FA h (fun _ h => h.elim) (.inr ⟨kP, by rw [cP]; kernel_rfl⟩) (evl_cons ?_ evl_nil (se_bin ..)) (sz_le 1 (by kernel_rfl) (by decide)) (by subst hE; kernel_rfl) fun s₁ a LA1 => ?_
  · rw [show ((pl0 vs : Nat) : Int) = (ck vs 0).fmod 10 from (fm10 _).1.symm]
    with_reducible exact ev_mod (ev_item (ev_var X.kf vC (by decide +kernel) (by decide +kernel)) ev_int (by decide) (by kernel_rfl) (sz_le 4 (by kernel_rfl) (by decide))) ev_int (by decide)
  refine wpAny_execs_cons ?_
  refine wpAny_mono (Q := fun f s' => f = .next ∧ LW env base (r2 aS vs) s') ?_ (fun f s₂ hf => ?_) (fun _ _ e => e)
  · have vC1 := LA1.ls.var (x := Str.ofString "cells") (pv := .list [.int (ck vs 0), .int (ck vs 1), .int (ck vs 2), .int (ck vs 3)]) (.inr ⟨kC, by rw [cC]; rfl⟩) (by kernel_rfl)
    with_reducible refine LA.loop X.FA LA1 (fun _ h => h.elim) X.hh kc (items := [.int (ck vs 1), .int (ck vs 2)]) ((ev_slice13 (p0 := .int (ck vs 0)) (p1 := .int (ck vs 1)) (p2 := .int (ck vs 2)) (p3 := .int (ck vs 3)) (ev_var X.kf vC1 (by decide +kernel) (by decide +kernel)) ev_int ev_int (by intro _ _; kernel_rfl)).imp fun _ _ _ h => IterOf.ofL h) (fun i pv e => ?_) (fun i l ρ => l = ((plL vs).take (i + 1)).map (fun (n : Nat) => PV.int n) ∧ ∀ y, y ≠ Str.ofString "cell" → ρ y = set (r1 aS vs) (Str.ofString "places") (.ref a) y) ⟨?_, fun _ _ => ?_⟩ ?_ ?_ (by intro _; kernel_rfl)
    · obtain ⟨c, n, m, rfl, _⟩ := pl_step vs e
      exact ⟨_, rfl⟩
    · kernel_rfl
    · kernel_rfl
    · intro i pv l ρ Zp' s₃ E' hi hI hL
      obtain ⟨rfl, hρ⟩ := hI
      obtain ⟨c, n, m, rfl, hlast, hm, hcat⟩ := pl_step vs hi
      have vc := (hL.ls.var (x := Str.ofString "cell") (pv := .int c) (.inl kc) set_eq).mono (Y' := Dm s₃) fun b hb => hb.1
      have vP := hL.ls.var (x := Str.ofString "places") (pv := .ref a) (.inr ⟨kP, by rw [cP]; rfl⟩) (by rw [set_ne (by decide +kernel), hρ _ (by decide +kernel), set_eq])
      have vP' := vP.mono (Y' := Dm s₃) fun b hb => hb.1
      obtain ⟨its, hp, hr⟩ := hL.lst
      obtain ⟨t, hlast'⟩ := last_of hr hlast
      have hplv : ∀ pos, Ev prog w A env s₃ (Dm s₃) (.Name (Str.ofString "places") pos) (fun _ v h => v = .ref a ∧ h.PlainList a its.toArray) := fun pos s' E Q k' hq =>
        ev_var X.kf vP' (by decide +kernel) (by decide +kernel) s' E Q k' fun v s'' k'' hv => hq v s'' k'' ⟨hv.inv_ref, pl_up (kp_up (kp_trans k' k'')) hp⟩
      have hz : (((plL vs).take (i + 1)).map (fun (n : Nat) => PV.int n)).length ≤ sizeLine := by
        have : ((plL vs).take (i + 1)).length ≤ 3 := List.length_take_le' _ _
        rw [List.length_map, sizeLine_eq]; omega
      with_reducible refine LA.append (pv := .int m) hL vP X.kf (Ev.imp (P := fun K => Rp K (.int m)) ?_ fun K v h hv => ?_) hz (by kernel_rfl) (by subst hE; kernel_rfl) (by decide) (by subst hE; kernel_rfl) (by subst hE; kernel_rfl) (by subst hE; kernel_rfl) (fun s₆ hL6 => ?_) (by decide +kernel) (by decide +kernel)
      · rw [hm]
        with_reducible exact ev_add (ev_add (ev_last (hplv _) (ev_neg ev_int) hlast' (by intro _ _; kernel_rfl)) ev_int) (ev_mod (ev_var X.kf vc (by decide +kernel) (by decide +kernel)) ev_int (by decide))
      · obtain ⟨t, rfl⟩ := hv.inv_int; exact rp_int ..
      · refine wpAny_execs_nil ⟨_, _, ⟨hcat, fun y hy => ?_⟩, hL6⟩
        rw [set_ne hy]; exact hρ y hy
    · intro l ρ s₃ E' hI hL
      obtain ⟨rfl, hρ⟩ := hI
      refine wpAny_execs_nil ⟨rfl, ?_⟩
      refine (hL.stop (x := Str.ofString "places") (by rw [hρ _ (by decide +kernel), set_eq])).sub fun y pv e => ?_
      by_cases hy : y = Str.ofString "places"
      · subst hy; rw [set_eq]; rw [r2, set_eq] at e; exact e
      · rw [set_ne hy]
        rw [r2, set_ne hy] at e
        by_cases hy2 : y = Str.ofString "cell"
        · subst hy2
          rw [show r1 aS vs (Str.ofString "cell") = none by kernel_rfl] at e; cases e
        · rw [hρ y hy2, set_ne hy]; exact e
  · obtain ⟨rfl, hL⟩ := hf
    exact hQ s₂ hL
end
end Mine
namespace Mine
section
variable {prog : Program} {w : World} {A : Around} {env : Env} {base s : Shared} {mg mb : Str → Option Value} {aS : Addr} {vs : List Value} {L fa : Addr} {cd : Value} {ρ : Str → Option PV} {Y : Addr → Prop}
def mM (vs : List Value) : Nat := ((ck vs 3).fmod 256).toNat
theorem mM_lt (vs : List Value) : mM vs < 256 := by
  have h1 := Int.fmod_nonneg_of_pos (ck vs 3) (show (0 : Int) < 256 by decide)
  have h2 := Int.fmod_lt_of_pos (ck vs 3) (show (0 : Int) < 256 by decide)
  unfold mM; omega
def bt (M k : Nat) : Nat := M / 2 ^ k % 2
theorem bt_eq (vs : List Value) (k : Nat) (hk : k < 8) : Builtin.bitAnd ((ck vs 3).fdiv (2 ^ ((k : Nat) : Int).toNat)) 1 = (bt (mM vs) k : Nat) := by
  rw [bitAnd_m1]
  unfold bt mM
  generalize ck vs 3 = c
  rw [Int.fmod_eq_emod_of_nonneg c (by decide), Int.fdiv_eq_ediv_of_nonneg c (by exact Int.pow_nonneg (by decide)), Int.toNat_natCast]
  match k, hk with
  | 0, _ | 1, _ | 2, _ | 3, _ | 4, _ | 5, _ | 6, _ | 7, _ => simp only [Nat.reducePow, Int.reducePow]; omega
def nms (vs : List Value) : List Str := (plL vs).map nm
def r3 (aS : Addr) (vs : List Value) : Str → Option PV := set (r2 aS vs) (Str.ofString "names") (.list ((nms vs).map PV.str))
def r4 (aS : Addr) (vs : List Value) : Str → Option PV := set (r3 aS vs) (Str.ofString "members") (nats ((List.range 8).map (bt (mM vs))))
def szM (M : Nat) : Nat := ((List.range 8).map (bt M)).sum
def r5 (aS : Addr) (vs : List Value) : Str → Option PV := set (r4 aS vs) (Str.ofString "size") (.int (szM (mM vs)))
set_option maxRecDepth 100000 in
set_option maxHeartbeats 4000000 in
theorem law3 (X : Ctx prog w A env base mg mb aS vs L fa cd) (h : LW env base (r2 aS vs) s) {E : Value → Shared → Prop} {Q : Flow → Shared → Prop}
    (hQ : ∀ s', LW env base (r3 aS vs) s' → wpAny (model prog w) A (execs (lawB.drop 4) env) Q E s') :
    wpAny (model prog w) A (execs (lawB.drop 3) env) Q E s := by
  have hE := X.hE
  have kP : env.kindOf (Str.ofString "places") = some .cell := by subst hE; kernel_rfl
  have cP : env.cells.lookup (Str.ofString "places") = some (L + 3) := by subst hE; kernel_rfl
  have vP := h.var (x := Str.ofString "places") (pv := .list ((plL vs).map fun (n : Nat) => PV.int n)) (.inr ⟨kP, by rw [cP]; rfl⟩) (by kernel_rfl)
  have G := X.glb h
  have hpl := pl_lt vs
  obtain ⟨fa', o, pm, cd', doc, g1, g2, g3, g4⟩ := (X.wld h).ln
  have hnl := (X.wld h).nl
  show wpAny _ _ (execs (_ :: _) _) _ _ _
  with_reducible refine ex_assign (pv := .list ((nms vs).map PV.str)) X.FA h (.inr ⟨by subst hE; kernel_rfl, by subst hE; kernel_rfl⟩) ?_ (by subst hE; kernel_rfl) (fun s' hl => ?_)
  · with_reducible refine ev_compE (cl := []) (l := (plL vs).map fun (n : Nat) => PV.int n) X.hh (by subst hE; kernel_rfl) (by kernel_rfl) (by decide +kernel) kn_dm ((ev_var X.kf vP (by decide +kernel) (by decide +kernel)).imp fun _ _ _ h => IterOf.ofL h) (sz_le 3 (by kernel_rfl) (by decide)) ?_ (fun _ => true) (fun k => .str (nm ((plL vs).getD k 0))) (fun C i pv v s₃ T Y' hY hY' hi hr hsl k₃ => ⟨tsts_nil, fun _ => ?_⟩) (by intro _; kernel_rfl) (by kernel_rfl)
    · left
      subst hE
      exact ⟨fun _ _ => by kernel_rfl, fun _ => by kernel_rfl, by kernel_rfl⟩
    · obtain ⟨n, hn, hlt, rfl⟩ : ∃ n : Nat, (plL vs).getD i 0 = n ∧ n < 30 ∧ pv = .int n := by
        match i, hi with
        | 0, e => cases e; exact ⟨_, rfl, by show pl0 vs < 30; omega, rfl⟩
        | 1, e => cases e; exact ⟨_, rfl, by show pl1 vs < 30; omega, rfl⟩
        | 2, e => cases e; exact ⟨_, rfl, by show pl2 vs < 30; omega, rfl⟩
      rw [hn]
      generalize hCe : compEnvC _ _ C env = ce at hsl ⊢
      have kf : ce.scope.kind = .function := by subst hCe hE; kernel_rfl
      have vk := hsl.var hr
      have G3 : Glb ce s₃ mg mb := by subst hCe; exact (G.keeps k₃).comp
      have up := kp_up k₃
      have ho3 := up _ _ g2
      have hc3 := g4.keeps up
      have hn3 := hnl.keeps up
      with_reducible exact ev_call_d kf (by subst hCe hE; kernel_rfl) G3 g1 ho3 g3 (evl_cons (ev_var kf vk (by decide +kernel) (by decide +kernel)) evl_nil) (ln_cn ho3 g3 hc3 hn3 X.room n hlt) (Rp.ok _) (by decide +kernel) (sh1 (se_name ..)).1
  · exact hQ s' hl
set_option maxRecDepth 100000 in
set_option maxHeartbeats 4000000 in
theorem law4 (X : Ctx prog w A env base mg mb aS vs L fa cd) (h : LW env base (r3 aS vs) s) {E : Value → Shared → Prop} {Q : Flow → Shared → Prop}
    (hQ : ∀ s', LW env base (r4 aS vs) s' → wpAny (model prog w) A (execs (lawB.drop 5) env) Q E s') :
    wpAny (model prog w) A (execs (lawB.drop 4) env) Q E s := by
  have hE := X.hE
  have kC : env.kindOf (Str.ofString "cells") = some .cell := by subst hE; kernel_rfl
  have cC : env.cells.lookup (Str.ofString "cells") = some (L + 2) := by subst hE; kernel_rfl
  have vC := h.var (x := Str.ofString "cells") (pv := .list [.int (ck vs 0), .int (ck vs 1), .int (ck vs 2), .int (ck vs 3)]) (.inr ⟨kC, by rw [cC]; rfl⟩) (by kernel_rfl)
  have G := X.glb h
  show wpAny _ _ (execs (_ :: _) _) _ _ _
  with_reducible refine ex_assign (pv := nats ((List.range 8).map (bt (mM vs)))) X.FA h (.inr ⟨by subst hE; kernel_rfl, by subst hE; kernel_rfl⟩) ?_ (by subst hE; kernel_rfl) (fun s' hl => ?_)
  · with_reducible refine ev_compE (cl := [(Str.ofString "cells", L + 2)]) (l := (List.range 8).map fun (i : Nat) => PV.int i) X.hh (by subst hE; kernel_rfl) (by kernel_rfl) (by decide +kernel) kn_dm (ev_range X.kf (by subst hE; kernel_rfl) G (n := 8) X.B.range.1 X.B.range.2 (ev_intN rfl) (by decide) (se_const ..) (by decide +kernel)) (by decide) ?_ (fun _ => true) (fun k => .int (bt (mM vs) k)) (fun C i pv v s₃ T Y' hY hY' hi hr hsl k₃ => ⟨tsts_nil, fun _ => ?_⟩) (by intro _; kernel_rfl) (by kernel_rfl)
    · left
      subst hE
      exact ⟨fun _ _ => by kernel_rfl, fun _ => by kernel_rfl, by kernel_rfl⟩
    · obtain ⟨hi8, rfl⟩ := range_get hi
      generalize hCe : compEnvC _ _ C env = ce at hsl ⊢
      have kf : ce.scope.kind = .function := by subst hCe hE; kernel_rfl
      have vk := hsl.var hr
      have vC3 : VarIs ce s₃ Y' (Str.ofString "cells") (.list [.int (ck vs 0), .int (ck vs 1), .int (ck vs 2), .int (ck vs 3)]) := in_var vC k₃ hY kC cC (by subst hCe hE; kernel_rfl) (by subst hCe hE; kernel_rfl)
      rw [← bt_eq vs i hi8]
      with_reducible exact ev_and (ev_shr (ev_item (ev_var kf vC3 (by decide +kernel) (by decide +kernel)) ev_int (by decide) (by kernel_rfl) (sz_le 4 (by kernel_rfl) (by decide))) (ev_var kf vk (by decide +kernel) (by decide +kernel)) (by omega)) ev_int
  · exact hQ s' hl
set_option maxRecDepth 100000 in
set_option maxHeartbeats 4000000 in
theorem law5 (X : Ctx prog w A env base mg mb aS vs L fa cd) (h : LW env base (r4 aS vs) s) {E : Value → Shared → Prop} {Q : Flow → Shared → Prop}
    (hQ : ∀ s', LW env base (r5 aS vs) s' → wpAny (model prog w) A (execs (lawB.drop 6) env) Q E s') :
    wpAny (model prog w) A (execs (lawB.drop 5) env) Q E s := by
  have hE := X.hE
  have kC : env.kindOf (Str.ofString "members") = some .cell := by subst hE; kernel_rfl
  have cC : env.cells.lookup (Str.ofString "members") = some (L + 5) := by subst hE; kernel_rfl
  have vC := h.var (x := Str.ofString "members") (pv := .list (((List.range 8).map fun k => (bt (mM vs) k : Int)).map PV.int)) (.inr ⟨kC, by rw [cC]; rfl⟩) (by kernel_rfl)
  have G := X.glb h
  show wpAny _ _ (execs (_ :: _) _) _ _ _
  with_reducible refine ex_assign (pv := .int (szM (mM vs))) X.FA h (.inr ⟨by subst hE; kernel_rfl, by subst hE; kernel_rfl⟩) ?_ (by subst hE; kernel_rfl) (fun s' hl => ?_)
  · rw [show ((szM (mM vs) : Nat) : Int) = ((List.range 8).map fun k => (bt (mM vs) k : Int)).sum by unfold szM; simp [List.range_succ]]
    with_reducible exact ev_call_b X.kf (by subst hE; kernel_rfl) G X.B.sum.1 X.B.sum.2 (evl_cons (ev_var X.kf vC (by decide +kernel) (by decide +kernel)) evl_nil) (sum_cn X.hh _) (Rp.ok _) (by decide +kernel) (sh1 (se_name ..)).1 (sh1 (se_name ..)).2
  · exact hQ s' hl
end
end Mine
namespace Mine
open Builtin Builtin.Str StrLaws
def sepC : Str := Str.ofString ", "
theorem sepC_l : sepC.cps.toList = [44, 32] := by decide +kernel
theorem sepC_n : sepC.length = 2 := by decide +kernel
theorem at_iff (x : Str) (i : Nat) : At x sepC x.length i ↔ (x.cps.toList.drop i).take 2 = [44, 32] := by
  unfold At
  rw [subAt_eq, sepC_n, sepC_l]
  constructor
  · rintro ⟨_, h⟩; exact eq_of_beq h
  · intro h
    refine ⟨?_, by rw [h]; rfl⟩
    have := congrArg List.length h
    simp [Str.length] at this ⊢
    omega
theorem no44 {l : List Nat} (h : 44 ∉ l) {r : List Nat} : l.take 2 ≠ 44 :: r := by
  intro e
  cases l with
  | nil => simp at e
  | cons a l => simp at e; exact h (by rw [e.1]; exact List.mem_cons_self)
theorem jl_cons (n m : Str) (r : List Str) : (Str.join sepC (n :: m :: r)).cps.toList = n.cps.toList ++ 44 :: 32 :: (Str.join sepC (m :: r)).cps.toList := by
  show ((n ++ sepC) ++ Str.join sepC (m :: r)).cps.toList = _
  have e : ∀ a b : Str, (a ++ b).cps.toList = a.cps.toList ++ b.cps.toList := fun a b => by show (a.cps ++ b.cps).toList = _; simp
  rw [e, e, sepC_l]; simp
theorem str_ext {a b : Str} (h : a.cps.toList = b.cps.toList) : a = b := Str.ext' (Array.toList_inj.mp h)
theorem parts_eq (x : Str) : ∀ (r : List Str) (n : Str) (cuts : List Nat) (a f : Nat), (∀ p ∈ n :: r, 44 ∉ p.cps.toList) → a ≤ x.length → x.cps.toList.drop a = (Str.join sepC (n :: r)).cps.toList → ChainG x sepC x.length a cuts f → (∀ k, f ≤ k → ¬ At x sepC x.length k) →
    partsFrom x 2 a cuts = n :: r
  | [], n, cuts, a, f, hfree, ha, hx, hC, hn => by
    have hx' : x.cps.toList.drop a = n.cps.toList := hx
    have none : ∀ k, a ≤ k → ¬ At x sepC x.length k := by
      intro k hk hA
      rw [at_iff] at hA
      have e : x.cps.toList.drop k = n.cps.toList.drop (k - a) := by rw [← hx', List.drop_drop]; congr 1; omega
      rw [e] at hA
      exact no44 (fun hm => hfree n List.mem_cons_self (List.mem_of_mem_drop hm)) hA
    cases cuts with
    | nil =>
      show [strSub x a x.length] = [n]
      congr 1
      apply str_ext
      rw [strSub_toList, hx']
      apply List.take_of_length_le
      have := congrArg List.length hx'
      simp [Str.length] at this ⊢
      omega
    | cons c cs => exact absurd hC.2.1 (none c hC.1)
  | m :: r, n, cuts, a, f, hfree, ha, hx, hC, hn => by
    rw [jl_cons] at hx
    have hat : At x sepC x.length (a + n.length) := by
      rw [at_iff]
      have e : x.cps.toList.drop (a + n.length) = 44 :: 32 :: (Str.join sepC (m :: r)).cps.toList := by
        rw [← List.drop_drop, hx]
        exact List.drop_left' (by simp [Str.length])
      rw [e]; rfl
    have lo : ∀ k, a ≤ k → k < a + n.length → ¬ At x sepC x.length k := by
      intro k h1 h2 hA
      rw [at_iff] at hA
      have e : x.cps.toList.drop k = n.cps.toList.drop (k - a) ++ 44 :: 32 :: (Str.join sepC (m :: r)).cps.toList := by
        rw [show k = a + (k - a) by omega, ← List.drop_drop, hx, List.drop_append_of_le_length (by simp [Str.length] at h2 ⊢; omega)]
        congr 2; omega
      rw [e] at hA
      have hne : n.cps.toList.drop (k - a) ≠ [] := by
        intro h0
        have := congrArg List.length h0
        simp [Str.length] at this h2
        omega
      cases hd : n.cps.toList.drop (k - a) with
      | nil => exact hne hd
      | cons b bs =>
        rw [hd] at hA
        simp at hA
        exact hfree n List.mem_cons_self (List.mem_of_mem_drop (i := k - a) (by rw [hd, hA.1]; exact List.mem_cons_self))
    cases cuts with
    | nil =>
      have e : f = a := hC
      exact absurd hat (hn _ (by omega))
    | cons c cs =>
      obtain ⟨h1, h2, h3, h4⟩ := hC
      have hc : c = a + n.length := by
        by_cases hlt : c < a + n.length
        · exact absurd h2 (lo c h1 hlt)
        · by_cases hgt : a + n.length < c
          · exact absurd hat (h3 _ (by omega) hgt)
          · omega
      subst hc
      rw [sepC_n] at h4
      have hle : a + n.length + 2 ≤ x.length := by have := h2.1; rw [sepC_n] at this; exact this
      have ih := parts_eq x r m cs (a + n.length + 2) f (fun p hp => hfree p (List.mem_cons_of_mem _ hp)) hle (by
        rw [Nat.add_assoc, ← List.drop_drop, hx, ← List.drop_drop, List.drop_left' (by simp [Str.length])]; rfl) h4 hn
      show strSub x a (a + n.length) :: partsFrom x 2 (a + n.length + 2) cs = _
      rw [ih]
      congr 1
      apply str_ext
      rw [strSub_toList, hx, Nat.add_sub_cancel_left]
      exact List.take_left' (by simp [Str.length])
theorem kind1 (x : Str) : 1 ≤ Builtin.Str.strKind x := by unfold Builtin.Str.strKind; split <;> (try split) <;> omega
theorem kindC : Builtin.Str.strKind sepC = 1 := by decide +kernel
/-- a text of names, cut at its commas -/
theorem split_names (n : Str) (r : List Str) (hfree : ∀ p ∈ n :: r, 44 ∉ p.cps.toList) : Txt.split (Txt.join sepC (n :: r)) sepC = n :: r := by
  have ej : Txt.join sepC (n :: r) = Str.join sepC (n :: r) := glued_eq_join sepC _
  rw [ej]
  generalize hx : Str.join sepC (n :: r) = x
  obtain ⟨f, hC, hn⟩ := occ_tight x sepC (by rw [sepC_n]; decide)
  have key := parts_eq x r n _ 0 f hfree (Nat.zero_le _) (by rw [List.drop_zero, hx]) hC hn
  unfold Txt.split
  have hk : ¬ Builtin.Str.strKind x < Builtin.Str.strKind sepC := by rw [kindC]; have := kind1 x; omega
  have one : (∀ k, ¬ At x sepC x.length k) → [x] = n :: r := by
    intro hno
    cases r with
    | nil => rw [← hx]; rfl
    | cons m r =>
      exfalso
      refine hno n.length ?_
      rw [at_iff, ← hx, jl_cons, List.drop_left' (by simp [Str.length])]; rfl
  by_cases hl : x.length < sepC.length
  · rw [if_pos (by simp [hl])]
    exact one fun k hA => by have := hA.1; omega
  · rw [if_neg (by simp [hl, hk])]
    by_cases he : (occurrences x sepC 0 x.length (x.length + 1)).isEmpty = true
    · rw [if_pos he]
      rw [List.isEmpty_iff.mp he] at hC
      have e : f = 0 := hC
      exact one fun k => hn k (by omega)
    · rw [if_neg he, partsBetween_eq, sepC_n]
      exact key
end Mine
namespace Mine
theorem fsel1 (p : Nat → Bool) (a : Nat) (hp : ∀ i, p i = decide (i = a)) : ∀ n, (List.range n).filter p = if a < n then [a] else []
  | 0 => by simp
  | n + 1 => by
    have e : [n].filter p = if n = a then [n] else [] := by rw [List.filter_cons, hp]; by_cases h : n = a <;> simp [h]
    rw [List.range_succ, List.filter_append, fsel1 p a hp n, e]
    by_cases h : n = a
    · subst h; simp
    · rw [if_neg h, List.append_nil]
      by_cases g : a < n
      · rw [if_pos g, if_pos (by omega)]
      · rw [if_neg g, if_neg (by omega)]
theorem fsel_or (p q r : Nat → Bool) (b n : Nat) (hp : ∀ i, p i = (q i || decide (i = b))) (hq : ∀ i, b ≤ i → q i = false) (hb : b < n) : (List.range n).filter p = (List.range b).filter q ++ [b] := by
  have e : n = b + 1 + (n - (b + 1)) := by omega
  have key : ∀ m, (List.range (b + 1 + m)).filter p = (List.range b).filter q ++ [b] := by
    intro m
    induction m with
    | zero =>
      rw [Nat.add_zero, List.range_succ, List.filter_append]
      congr 1
      · refine List.filter_congr fun i hi => ?_
        have := List.mem_range.mp hi
        rw [hp, decide_eq_false (by omega), Bool.or_false]
      · rw [List.filter_cons, hp]; simp
    | succ m ih =>
      rw [← Nat.add_assoc, List.range_succ, List.filter_append, ih]
      have : p (b + 1 + m) = false := by rw [hp, hq _ (by omega), decide_eq_false (by omega)]; rfl
      rw [List.filter_cons, this]; simp
  rw [e]; exact key _
theorem bit1 (a i : Nat) : (2 ^ a : Nat).testBit i = decide (i = a) := by rw [Nat.testBit_two_pow, decide_eq_decide]; exact eq_comm
theorem bit_add (x b : Nat) (hx : x < 2 ^ b) (i : Nat) : (x + 2 ^ b).testBit i = (x.testBit i || decide (i = b)) := by
  have h := Nat.two_pow_add_eq_or_of_lt hx 1
  rw [Nat.mul_one] at h
  rw [Nat.add_comm, h, Nat.testBit_or, bit1, Bool.or_comm]
theorem lt_bits (x b i : Nat) (hx : x < 2 ^ b) (hi : b ≤ i) : x.testBit i = false := Nat.testBit_lt_two_pow (Nat.lt_of_lt_of_le hx (Nat.pow_le_pow_right (by decide) hi))
theorem pb1 (a : Nat) (h : a < 30) : (List.range 30).filter (2 ^ a : Nat).testBit = [a] := by rw [fsel1 _ a (bit1 a), if_pos h]
theorem pb1' (a b : Nat) (h : a < b) : (List.range b).filter (2 ^ a : Nat).testBit = [a] := by rw [fsel1 _ a (bit1 a), if_pos h]
theorem pb2 (b : Nat) (hb : b < 30) (a : Nat) (hab : a < b) : (List.range 30).filter (2 ^ a + 2 ^ b : Nat).testBit = [a, b] := by
  have hx : 2 ^ a < 2 ^ b := Nat.pow_lt_pow_right (by decide) hab
  rw [fsel_or _ _ (fun _ => true) b 30 (bit_add _ b hx) (fun i hi => lt_bits _ b i hx hi) hb, pb1' a b hab]; rfl
theorem pb3 (c : Nat) (hc : c < 30) (b : Nat) (hbc : b < c) (a : Nat) (hab : a < b) : (List.range 30).filter (2 ^ a + 2 ^ b + 2 ^ c : Nat).testBit = [a, b, c] := by
  have hx : 2 ^ a < 2 ^ b := Nat.pow_lt_pow_right (by decide) hab
  have h1 : 2 ^ (b + 1) ≤ 2 ^ c := Nat.pow_le_pow_right (by decide) hbc
  rw [Nat.pow_succ] at h1
  have hy : 2 ^ a + 2 ^ b < 2 ^ c := by omega
  rw [fsel_or _ _ (fun _ => true) c 30 (bit_add _ c hy) (fun i hi => lt_bits _ c i hy hi) hc, fsel_or _ _ (fun _ => true) b c (bit_add _ b hx) (fun i hi => lt_bits _ b i hx hi) hbc, pb1' a b hab]; rfl
theorem nm_free : ∀ n, n < 30 → 44 ∉ (nm n).cps.toList := by decide +kernel
theorem nm_inj : ∀ b, b < 30 → ∀ a, a < b → nm a ≠ nm b := by decide +kernel
theorem nm_zero : ∀ n, n < 30 → nm n ≠ Str.ofString "0x0" := by decide +kernel
end Mine
namespace Mine
section
variable {prog : Program} {w : World} {A : Around} {env : Env} {base s : Shared} {mg mb : Str → Option Value} {aS : Addr} {vs : List Value} {L fa : Addr} {cd : Value} {ρ : Str → Option PV} {Y : Addr → Prop}
theorem rpl_texts {K : Addr → Prop} {h : Heap} : ∀ (l : List (Str × Tok)), RpL K ((l.map (·.1)).map PV.str) (strValues l) h
  | [] => .nil _
  | (x, t) :: l => .cons (rp_str x t h) (rpl_texts l)
theorem split_cn (x y : Str) (hy : (y.length == 0) = false) (hx : x.length ≤ sizeLine) (hn : (Txt.split x y).length ≤ sizeLine) : Cn prog w A s (.builtin "str.split") [.str x, .str y] (fun K => Rp K (.list ((Txt.split x y).map PV.str))) := by
  intro K vs s' E Q k hr hQ
  obtain ⟨v, vs', rfl, hv, hr'⟩ := hr.inv
  obtain ⟨v2, vs2, rfl, hv2, hr2⟩ := hr'.inv
  cases hr2.inv_nil
  obtain ⟨t, rfl⟩ := hv.inv_str
  obtain ⟨u, rfl⟩ := hv2.inv_str
  have fin : ∀ (l : List (Str × Tok)) tk, l.map (·.1) = Txt.split x y → Q (.ref s'.heap.objs.size) { s' with toks := tk, heap := s'.heap.push { cls := .type "list", data := .seq (strValues l).toArray } } := by
    intro l tk hl
    refine hQ _ _ (kp_mk fun b o e => Heap.get?_push_of_some _ e) (rp_list (its := strValues l) (.inr (Heap.get?_none_of_le (Nat.le_refl _))) ⟨_, Heap.get?_push_size _ rfl⟩ ?_)
    rw [← hl]; exact rpl_texts l
  cases h1 : (decide (x.length < y.length) || decide (Builtin.Str.strKind x < Builtin.Str.strKind y))
  · cases hf : (Builtin.Str.occurrences x y 0 x.length (x.length + 1)).isEmpty
    · have e : Txt.split x y = Builtin.Str.partsBetween x (Builtin.Str.occurrences x y 0 x.length (x.length + 1)) y.length := (if_neg (ne_true_of_eq_false h1)).trans (if_neg (ne_true_of_eq_false hf))
      refine call_meets F.slot_str_split (typeIs_str _ _ _) F.entry_str_split (F.args_str_split_2 _ _) (meets_str_split_sep x y t u h1 hy hf hx (e ▸ hn)) ?_
      show wants Q E _ { s' with toks := _, heap := s'.heap.push { cls := .type "list", data := .seq (strsFrom s'.toks (Builtin.Str.partsBetween x (Builtin.Str.occurrences x y 0 x.length (x.length + 1)) y.length)).toArray } }
      rw [strsFrom_eq]
      exact fin (numbered s'.toks _) _ ((numbered_texts _ _).trans e.symm)
    · exact call_meets F.slot_str_split (typeIs_str _ _ _) F.entry_str_split (F.args_str_split_2 _ _) (meets_str_split_not_found x y t u h1 hy hf)
        (fin [(x, t)] _ ((if_neg (ne_true_of_eq_false h1)).trans (if_pos hf)).symm)
  · exact call_meets F.slot_str_split (typeIs_str _ _ _) F.entry_str_split (F.args_str_split_2 _ _) (meets_str_split_cannot_occur x y t u h1)
      (fin [(x, t)] _ (if_pos h1).symm)
def plD (vs : List Value) (j : Nat) : Nat := (plL vs).getD j 0
def bsel (k : Nat) : List Nat := (List.range 3).filter k.testBit
def flagF (vs : List Value) (k : Nat) : Nat := ((bsel k).map fun j => 2 ^ plD vs j).sum
def tl (vs : List Value) (k : Nat) : List Str := if k = 0 then [Str.ofString "0x0"] else (bsel k).map fun j => nm (plD vs j)
theorem flag_lt (vs : List Value) (k : Nat) (hk : k < 8) : flagF vs k < 2 ^ 30 := by
  obtain ⟨h0, h1, h2, h3⟩ := pl_lt vs
  have e1 : 2 ^ (pl0 vs + 1) ≤ 2 ^ pl1 vs := Nat.pow_le_pow_right (by decide) h1
  have e2 : 2 ^ (pl1 vs + 1) ≤ 2 ^ pl2 vs := Nat.pow_le_pow_right (by decide) h2
  have e3 : 2 ^ (pl2 vs + 1) ≤ 2 ^ 30 := Nat.pow_le_pow_right (by decide) h3
  rw [Nat.pow_succ] at e1 e2 e3
  have hp := Nat.two_pow_pos (pl0 vs)
  have a0 : plD vs 0 = pl0 vs := rfl
  have a1 : plD vs 1 = pl1 vs := rfl
  have a2 : plD vs 2 = pl2 vs := rfl
  unfold flagF
  match k, hk with
  | 0, _ => rw [show bsel 0 = [] by decide]; simp
  | 1, _ => rw [show bsel 1 = [0] by decide]; simp only [List.map_cons, List.map_nil, List.sum_cons, List.sum_nil, a0]; omega
  | 2, _ => rw [show bsel 2 = [1] by decide]; simp only [List.map_cons, List.map_nil, List.sum_cons, List.sum_nil, a1]; omega
  | 3, _ => rw [show bsel 3 = [0, 1] by decide]; simp only [List.map_cons, List.map_nil, List.sum_cons, List.sum_nil, a0, a1]; omega
  | 4, _ => rw [show bsel 4 = [2] by decide]; simp only [List.map_cons, List.map_nil, List.sum_cons, List.sum_nil, a2]; omega
  | 5, _ => rw [show bsel 5 = [0, 2] by decide]; simp only [List.map_cons, List.map_nil, List.sum_cons, List.sum_nil, a0, a2]; omega
  | 6, _ => rw [show bsel 6 = [1, 2] by decide]; simp only [List.map_cons, List.map_nil, List.sum_cons, List.sum_nil, a1, a2]; omega
  | 7, _ => rw [show bsel 7 = [0, 1, 2] by decide]; simp only [List.map_cons, List.map_nil, List.sum_cons, List.sum_nil, a0, a1, a2]; omega
theorem pf_sel (vs : List Value) (k : Nat) (hk : k < 8) (h0 : k ≠ 0) : flagF vs k ≠ 0 ∧ pfStrs (flagF vs k) 30 = (bsel k).map fun j => nm (plD vs j) := by
  obtain ⟨g0, g1, g2, g3⟩ := pl_lt vs
  have p0 := Nat.two_pow_pos (pl0 vs)
  have p1 := Nat.two_pow_pos (pl1 vs)
  have p2 := Nat.two_pow_pos (pl2 vs)
  have a0 : plD vs 0 = pl0 vs := rfl
  have a1 : plD vs 1 = pl1 vs := rfl
  have a2 : plD vs 2 = pl2 vs := rfl
  have sum1 : ∀ a : Nat, [a].sum = a := by simp
  have sum2 : ∀ a b : Nat, [a, b].sum = a + b := by simp
  have sum3 : ∀ a b c : Nat, [a, b, c].sum = a + b + c := by simp [Nat.add_assoc]
  unfold flagF pfStrs
  match k, hk with
  | 0, _ => exact absurd rfl h0
  | 1, _ => rw [show bsel 1 = [0] by decide]; simp only [List.map_cons, List.map_nil, a0, sum1]; rw [pb1 _ (by omega)]; exact ⟨by omega, rfl⟩
  | 2, _ => rw [show bsel 2 = [1] by decide]; simp only [List.map_cons, List.map_nil, a1, sum1]; rw [pb1 _ (by omega)]; exact ⟨by omega, rfl⟩
  | 3, _ => rw [show bsel 3 = [0, 1] by decide]; simp only [List.map_cons, List.map_nil, a0, a1, sum2]; rw [pb2 _ (by omega) _ (by omega)]; exact ⟨by omega, rfl⟩
  | 4, _ => rw [show bsel 4 = [2] by decide]; simp only [List.map_cons, List.map_nil, a2, sum1]; rw [pb1 _ (by omega)]; exact ⟨by omega, rfl⟩
  | 5, _ => rw [show bsel 5 = [0, 2] by decide]; simp only [List.map_cons, List.map_nil, a0, a2, sum2]; rw [pb2 _ (by omega) _ (by omega)]; exact ⟨by omega, rfl⟩
  | 6, _ => rw [show bsel 6 = [1, 2] by decide]; simp only [List.map_cons, List.map_nil, a1, a2, sum2]; rw [pb2 _ (by omega) _ (by omega)]; exact ⟨by omega, rfl⟩
  | 7, _ => rw [show bsel 7 = [0, 1, 2] by decide]; simp only [List.map_cons, List.map_nil, a0, a1, a2, sum3]; rw [pb3 _ (by omega) _ (by omega) _ (by omega)]; exact ⟨by omega, rfl⟩
theorem plD_lt (vs : List Value) (j : Nat) : plD vs j < 30 := by
  obtain ⟨g0, g1, g2, g3⟩ := pl_lt vs
  match j with
  | 0 => show pl0 vs < 30; omega
  | 1 => show pl1 vs < 30; omega
  | 2 => show pl2 vs < 30; omega
  | j + 3 => show 0 < 30; decide
theorem bsel_ne : ∀ k, k < 8 → k ≠ 0 → bsel k ≠ [] := by decide
theorem pf_split (vs : List Value) (k : Nat) (hk : k < 8) : Txt.split (pf (flagF vs k)) sepC = tl vs k := by
  unfold pf tl
  by_cases h0 : k = 0
  · subst h0
    rw [if_pos (by kernel_rfl), if_pos rfl]
    have := split_names (Str.ofString "0x0") [] (by decide +kernel)
    exact this
  · obtain ⟨h1, h2⟩ := pf_sel vs k hk h0
    rw [if_neg h1, if_neg h0, h2]
    have hne : (bsel k) ≠ [] := bsel_ne k hk h0
    cases hb : (bsel k).map fun j => nm (plD vs j) with
    | nil => exact absurd (List.map_eq_nil_iff.mp hb) hne
    | cons n r =>
      refine split_names n r fun p hp => ?_
      rw [← hb] at hp
      obtain ⟨j, _, rfl⟩ := List.mem_map.mp hp
      exact nm_free _ (plD_lt vs j)
theorem pf_len (F : Nat) : (pf F).length ≤ sizeLine := by
  unfold pf
  split
  · decide +kernel
  · have h1 := pf_fits F 30 (by decide)
    have h2 := StrLaws.join_length_le (Str.ofString ", ") (pfStrs F 30)
    have e : Txt.join (Str.ofString ", ") (pfStrs F 30) = Str.join (Str.ofString ", ") (pfStrs F 30) := StrLaws.glued_eq_join _ _
    rw [e, sizeLine_eq]
    omega
end
end Mine
namespace Mine
section
variable {prog : Program} {w : World} {A : Around} {env : Env} {base s : Shared} {mg mb : Str → Option Value} {aS : Addr} {vs : List Value} {L fa : Addr} {cd : Value} {ρ : Str → Option PV} {Y : Addr → Prop}
theorem bit_tst : ∀ k, k < 8 → ∀ j, j < 3 → (Builtin.bitAnd (((k : Nat) : Int).fdiv (2 ^ ((j : Nat) : Int).toNat)) 1 != 0) = k.testBit j := by decide +kernel
def toldPV (vs : List Value) : PV := .list ((List.range 8).map fun k => .list ((tl vs k).map PV.str))
def r6 (aS : Addr) (vs : List Value) : Str → Option PV := set (r5 aS vs) (Str.ofString "told") (toldPV vs)
theorem bsel_len : ∀ k, k < 8 → (bsel k).length ≤ 3 := by decide
theorem tl_len (vs : List Value) (k : Nat) (hk : k < 8) : (tl vs k).length ≤ 3 := by
  unfold tl
  split
  · decide
  · rw [List.length_map]
    exact bsel_len k hk
set_option maxRecDepth 100000 in
set_option maxHeartbeats 4000000 in
theorem law6 (X : Ctx prog w A env base mg mb aS vs L fa cd) (h : LW env base (r5 aS vs) s) {E : Value → Shared → Prop} {Q : Flow → Shared → Prop}
    (hQ : ∀ s', LW env base (r6 aS vs) s' → wpAny (model prog w) A (execs (lawB.drop 7) env) Q E s') :
    wpAny (model prog w) A (execs (lawB.drop 6) env) Q E s := by
  have hE := X.hE
  have kP : env.kindOf (Str.ofString "places") = some .cell := by subst hE; kernel_rfl
  have cP : env.cells.lookup (Str.ofString "places") = some (L + 3) := by subst hE; kernel_rfl
  have vP := h.var (x := Str.ofString "places") (pv := .list ((plL vs).map fun (n : Nat) => PV.int n)) (.inr ⟨kP, by rw [cP]; rfl⟩) (by kernel_rfl)
  have G := X.glb h
  obtain ⟨fa', o, pm, cd', doc, g1, g2, g3, g4⟩ := (X.wld h).pf
  obtain ⟨d, t1, t2⟩ := (X.wld h).tab
  have hnl := (X.wld h).nl
  have hg := (X.wld h).g
  have hb := (X.wld h).b
  show wpAny _ _ (execs (_ :: _) _) _ _ _
  with_reducible refine ex_assign (pv := toldPV vs) X.FA h (.inr ⟨by subst hE; kernel_rfl, by subst hE; kernel_rfl⟩) ?_ (by subst hE; kernel_rfl) (fun s' hl => ?_)
  · with_reducible refine ev_compE (cl := [(Str.ofString "places", L + 3)]) (l := (List.range 8).map fun (i : Nat) => PV.int i) X.hh (by subst hE; kernel_rfl) (by kernel_rfl) (by decide +kernel) kn_dm (ev_range X.kf (by subst hE; kernel_rfl) G (n := 8) X.B.range.1 X.B.range.2 (ev_intN rfl) (by decide) (se_const ..) (by decide +kernel)) (by decide) ?_ (fun _ => true) (fun k => .list ((tl vs k).map PV.str)) (fun C i pv v s₃ T Y' hY hY' hi hr hsl k₃ => ⟨tsts_nil, fun _ => ?_⟩) (by intro _; kernel_rfl) (by kernel_rfl)
    · right
      subst hE
      exact ⟨fun _ _ => by kernel_rfl, fun _ => by kernel_rfl, by kernel_rfl⟩
    · obtain ⟨hi8, rfl⟩ := range_get hi
      generalize hCe : compEnvC _ _ C env = ce at hsl ⊢
      have kf : ce.scope.kind = .function := by subst hCe hE; kernel_rfl
      have vk := hsl.var hr
      have kK : ce.kindOf (Str.ofString "k") = some .cell := by subst hCe hE; kernel_rfl
      have cK : ce.cells.lookup (Str.ofString "k") = some (C + 1) := by subst hCe hE; kernel_rfl
      have kP3 : ce.kindOf (Str.ofString "places") = some .cell := by subst hCe hE; kernel_rfl
      have cP3 : ce.cells.lookup (Str.ofString "places") = some (L + 3) := by subst hCe hE; kernel_rfl
      have vP3 : VarIs ce s₃ Y' (Str.ofString "places") (.list ((plL vs).map fun (n : Nat) => PV.int n)) := in_var vP k₃ hY kP cP kP3 cP3
      have G3 : Glb ce s₃ mg mb := by subst hCe; exact (G.keeps k₃).comp
      have up := kp_up k₃
      have ho3 := up _ _ g2
      have hc3 := g4.keeps up
      have hn3 := hnl.keeps up
      have hg3 := hg.keeps up
      have hb3 := hb.keeps up
      have ht3 := tab_keeps t2 up
      have hcall : Cn prog w A s₃ (.ref fa') [.int (flagF vs i)] (fun K => Rp K (.str (pf (flagF vs i)))) := pf_cn ho3 g3 hc3 hn3 X.room X.hh hg3 hb3 t1 ht3 X.B.range.1 X.B.range.2 X.B.hex.1 X.B.hex.2 (flagF vs i) (flag_lt vs i hi8)
      have hspl : Cn prog w A s₃ (.builtin "str.split") [.str (pf (flagF vs i)), .str sepC] (fun K => Rp K (.list ((tl vs i).map PV.str))) := by
        have := split_cn (prog := prog) (w := w) (A := A) (s := s₃) (pf (flagF vs i)) sepC (by decide +kernel) (pf_len _) (by rw [pf_split vs i hi8, sizeLine_eq]; have := tl_len vs i hi8; omega)
        rw [pf_split vs i hi8] at this
        exact this
      with_reducible refine ev_meth (T := "str") (id := "str.split") (P₀ := fun K => Rp K (.str (pf (flagF vs i)))) (P := fun K => Rp K (.list ((tl vs i).map PV.str))) ?_ (Rp.ok _) (Rp.ok _) ?_ (evl_cons (pv := .str sepC) ev_str evl_nil (se_const ..)) ?_ (by kernel_rfl) (by subst hCe hE; kernel_rfl) (by decide) PySem.F.plainAttrs_str PySem.F.slot_str_split PySem.F.type_str_split (sh1 (se_const ..)).1 (sh1 (se_const ..)).2
      · with_reducible refine ev_call_d kf (by subst hCe hE; kernel_rfl) G3 g1 ho3 g3 (evl_cons (pv := .int (flagF vs i)) ?_ evl_nil) hcall (Rp.ok _) (by decide +kernel) (sh1 (se_call ..)).1
        rw [show ((flagF vs i : Nat) : Int) = ((bsel i).map fun j => ((2 ^ plD vs j : Nat) : Int)).sum by unfold flagF; generalize bsel i = l; induction l with | nil => rfl | cons a l ih => simp only [List.map_cons, List.sum_cons, Int.natCast_add, ih]]
        with_reducible refine ev_call_b kf (by subst hCe hE; kernel_rfl) G3 X.B.sum.1 X.B.sum.2 (evl_cons ?_ evl_nil) (sum_cn X.hh _) (Rp.ok _) (by decide +kernel) (sh1 (se_comp ..)).1 (sh1 (se_comp ..)).2
        with_reducible refine ev_compE (cl := [(Str.ofString "places", L + 3), (Str.ofString "k", C + 1)]) (l := (List.range 3).map fun (i : Nat) => PV.int i) X.hh ?_ (by kernel_rfl) (by decide +kernel) hY' (ev_range kf (by subst hCe hE; kernel_rfl) G3 (n := 3) X.B.range.1 X.B.range.2 (ev_intN rfl) (by decide) (se_const ..) (by decide +kernel)) (by decide) ?_ (fun j => i.testBit j) (fun j => .int ((2 ^ plD vs j : Nat) : Int)) (fun C2 j pv v s₄ T4 Y4 hY4 hY4' hj hr4 hsl4 k₄ => ?_) (by intro _; kernel_rfl) ?_
        · subst hCe hE; kernel_rfl
        · left
          subst hCe hE
          exact ⟨fun _ _ => by kernel_rfl, fun _ => by kernel_rfl, by kernel_rfl⟩
        · obtain ⟨hj3, rfl⟩ := range_get hj
          generalize hCd : compEnvC _ _ C2 ce = cf at hsl4 ⊢
          have kf4 : cf.scope.kind = .function := by subst hCd hCe hE; kernel_rfl
          have vj := hsl4.var hr4
          have vP4 : VarIs cf s₄ Y4 (Str.ofString "places") (.list ((plL vs).map fun (n : Nat) => PV.int n)) := in_var vP3 k₄ hY4 kP3 cP3 (by subst hCd hCe hE; kernel_rfl) (by subst hCd hCe hE; kernel_rfl)
          have vk4 : VarIs cf s₄ Y4 (Str.ofString "k") (.int i) := in_var vk k₄ hY4 kK cK (by subst hCd hCe hE; kernel_rfl) (by subst hCd hCe hE; kernel_rfl)
          have hpj : ((plL vs).map fun (n : Nat) => PV.int n)[((j : Nat) : Int).toNat]? = some (.int (plD vs j)) := by
            match j, hj3 with
            | 0, _ | 1, _ | 2, _ => kernel_rfl
          have hlt := plD_lt vs j
          have hib : Builtin.Int.intBits 2 = 2 := by kernel_rfl
          refine ⟨?_, fun _ => ?_⟩
          · rw [← bit_tst i hi8 j hj3]
            with_reducible exact tsts_one (tst_int (ev_and (ev_shr (ev_var kf4 vk4 (by decide +kernel) (by decide +kernel)) (ev_var kf4 vj (by decide +kernel) (by decide +kernel)) (by omega)) ev_int) (by intro _; kernel_rfl))
          · rw [show ((2 ^ plD vs j : Nat) : Int) = (2 : Int) ^ ((plD vs j : Nat) : Int).toNat by simp]
            with_reducible exact ev_pow ev_int (ev_item (ev_var kf4 vP4 (by decide +kernel) (by decide +kernel)) (ev_var kf4 vj (by decide +kernel) (by decide +kernel)) (by omega) hpj (sz_le 3 (by kernel_rfl) (by decide))) (by omega) (by rw [hib]; omega)
        · unfold bsel
          rw [List.map_map]
          kernel_rfl
      · intro K v s' _ hv
        obtain ⟨t, rfl⟩ := hv.inv_str
        exact ⟨typeIs_str _ _ _, fun a e => by cases e⟩
      · intro K ov vs' s' E' Q' k' hv hr' hq
        exact hspl K (ov :: vs') s' E' Q' k' (.cons hv hr') hq
  · exact hQ s' hl
end
end Mine
namespace Mine
def famL (M : Nat) : List Int := (List.range 8).map fun k => 56 * (bt M k : Int)
def colL (j : Nat) : List Int := (List.range 8).map fun k => if k.testBit j then 1 else 0
def dueZ (M j : Nat) : Int := 8 * (((List.range 8).filter fun k => k.testBit j).map fun k => (bt M k : Int)).sum - 4 * (szM M : Int)
theorem nm_ne (vs : List Value) : nm (pl0 vs) ≠ nm (pl1 vs) ∧ nm (pl0 vs) ≠ nm (pl2 vs) ∧ nm (pl1 vs) ≠ nm (pl2 vs) := by
  obtain ⟨h0, h1, h2, h3⟩ := pl_lt vs
  exact ⟨nm_inj _ (by omega) _ h1, nm_inj _ (by omega) _ (by omega), nm_inj _ (by omega) _ h2⟩
theorem nm_nz (vs : List Value) (j : Nat) : Str.ofString "0x0" ≠ nm (plD vs j) := fun e => nm_zero _ (plD_lt vs j) e.symm
theorem b0 : bsel 0 = [] := by decide
theorem b1 : bsel 1 = [0] := by decide
theorem b2 : bsel 2 = [1] := by decide
theorem b3 : bsel 3 = [0, 1] := by decide
theorem b4 : bsel 4 = [2] := by decide
theorem b5 : bsel 5 = [0, 2] := by decide
theorem b6 : bsel 6 = [1, 2] := by decide
theorem b7 : bsel 7 = [0, 1, 2] := by decide
theorem col_count (vs : List Value) : ∀ k, k < 8 → ∀ i, i < 3 → PySem.Spec.countIn (.str (nm (plD vs i))) ((tl vs k).map PyData.str) = if k.testBit i then 1 else 0 := by
  have ne := nm_ne vs
  have z0 := nm_nz vs 0
  have z1 := nm_nz vs 1
  have z2 := nm_nz vs 2
  have a0 : plD vs 0 = pl0 vs := rfl
  have a1 : plD vs 1 = pl1 vs := rfl
  have a2 : plD vs 2 = pl2 vs := rfl
  rw [a0] at z0; rw [a1] at z1; rw [a2] at z2
  intro k hk i hi
  have hb : ∀ i, i < 3 → plD vs i = [pl0 vs, pl1 vs, pl2 vs].getD i 0 := fun _ _ => rfl
  generalize hn0 : nm (pl0 vs) = n0 at *
  generalize hn1 : nm (pl1 vs) = n1 at *
  generalize hn2 : nm (pl2 vs) = n2 at *
  generalize hz : Str.ofString "0x0" = z at *
  have key : ∀ (i : Nat), i < 3 → nm (plD vs i) = [n0, n1, n2].getD i z := by
    intro i hi
    match i, hi with
    | 0, _ => rw [a0, hn0]; rfl
    | 1, _ => rw [a1, hn1]; rfl
    | 2, _ => rw [a2, hn2]; rfl
  have ht : tl vs k = if k = 0 then [z] else (bsel k).map fun j => [n0, n1, n2].getD j z := by
    unfold tl
    rw [hz]
    split
    · rfl
    · refine List.map_congr_left fun j hj => key j ?_
      unfold bsel at hj
      simpa using (List.mem_filter.mp hj).1
  rw [ht, key i hi]
  obtain ⟨e1, e2, e3⟩ := ne
  have f1 := Ne.symm e1
  have f2 := Ne.symm e2
  have f3 := Ne.symm e3
  match i, hi with
  | 0, _ | 1, _ | 2, _ =>
    match k, hk with
    | 0, _ | 1, _ | 2, _ | 3, _ | 4, _ | 5, _ | 6, _ | 7, _ => simp +decide [b0, b1, b2, b3, b4, b5, b6, b7, PySem.Spec.countIn, PySem.Spec.same, *]
end Mine
namespace Mine
section
variable {prog : Program} {w : World} {A : Around} {env : Env} {base s : Shared} {mg mb : Str → Option Value} {aS : Addr} {vs : List Value} {L fa : Addr} {cd : Value} {ρ : Str → Option PV} {Y : Addr → Prop}
def r7 (aS : Addr) (vs : List Value) : Str → Option PV := set (r6 aS vs) (Str.ofString "family") (.list ((famL (mM vs)).map PV.int))
def colsPV : PV := .list ((List.range 3).map fun j => .list ((colL j).map PV.int))
def r8 (aS : Addr) (vs : List Value) : Str → Option PV := set (r7 aS vs) (Str.ofString "columns") colsPV
theorem bt_le (M k : Nat) : bt M k ≤ 1 := by unfold bt; omega
theorem bt_mul (M k : Nat) : IntMulOk 56 (bt M k : Int) := .of_left (by decide)
theorem int_get {l : List Int} {i : Nat} {pv : PV} (h : (l.map PV.int)[i]? = some pv) : ∃ n, l[i]? = some n ∧ pv = .int n := by
  rw [List.getElem?_map] at h
  obtain ⟨k, hk, rfl⟩ := Option.map_eq_some_iff.mp h
  exact ⟨k, hk, rfl⟩
set_option maxRecDepth 100000 in
set_option maxHeartbeats 4000000 in
theorem law7 (X : Ctx prog w A env base mg mb aS vs L fa cd) (h : LW env base (r6 aS vs) s) {E : Value → Shared → Prop} {Q : Flow → Shared → Prop}
    (hQ : ∀ s', LW env base (r7 aS vs) s' → wpAny (model prog w) A (execs (lawB.drop 8) env) Q E s') :
    wpAny (model prog w) A (execs (lawB.drop 7) env) Q E s := by
  have hE := X.hE
  have kC : env.kindOf (Str.ofString "members") = some .cell := by subst hE; kernel_rfl
  have cC : env.cells.lookup (Str.ofString "members") = some (L + 5) := by subst hE; kernel_rfl
  have vC := h.var (x := Str.ofString "members") (pv := .list (((List.range 8).map fun k => (bt (mM vs) k : Int)).map PV.int)) (.inr ⟨kC, by rw [cC]; rfl⟩) (by kernel_rfl)
  show wpAny _ _ (execs (_ :: _) _) _ _ _
  with_reducible refine ex_comp (cl := []) (l := ((List.range 8).map fun k => (bt (mM vs) k : Int)).map PV.int) X.FA h (fun _ h => h.elim) X.hh (by subst hE; kernel_rfl) (by subst hE; kernel_rfl) (by subst hE; kernel_rfl) (by kernel_rfl) (by decide +kernel) ((ev_var X.kf vC (by decide +kernel) (by decide +kernel)).imp fun _ _ _ h => IterOf.ofL h) (sz_le 8 (by kernel_rfl) (by decide)) ?_ (fun _ => true) (fun k => .int (56 * (bt (mM vs) k : Int))) (fun C i pv v s₃ T Y' hY hY' hi hr hsl k₃ => ⟨tsts_nil, fun _ => ?_⟩) (by intro _; kernel_rfl) (fun s' hl => ?_)
  · left
    subst hE
    exact ⟨fun _ _ => by kernel_rfl, fun _ => by kernel_rfl, by kernel_rfl⟩
  · obtain ⟨n, hn, rfl⟩ := int_get hi
    obtain ⟨hlt, hn⟩ : i < 8 ∧ n = (bt (mM vs) i : Int) := by
      rw [List.getElem?_map] at hn
      obtain ⟨k, hk, rfl⟩ := Option.map_eq_some_iff.mp hn
      obtain ⟨hk1, hk2⟩ := List.getElem?_eq_some_iff.mp hk
      rw [List.length_range] at hk1
      rw [List.getElem_range] at hk2
      subst hk2
      exact ⟨hk1, rfl⟩
    subst hn
    generalize hCe : compEnvC _ _ C env = ce at hsl ⊢
    have kf : ce.scope.kind = .function := by subst hCe hE; kernel_rfl
    have vk := hsl.var hr
    with_reducible exact ev_mul ev_int (ev_var kf vk (by decide +kernel) (by decide +kernel)) (bt_mul _ _)
  · exact hQ s' hl
theorem count_cn (x : Str) (l : List Str) : Cn prog w A s (.builtin "list.count") [.list (l.map PV.str), .str x] (fun K => Rp K (.int (PySem.Spec.countIn (.str x) (l.map PyData.str)))) := by
  intro K vs' s' E Q k hr hQ
  obtain ⟨v, vs', rfl, hv, hr'⟩ := hr.inv
  obtain ⟨v2, vs2, rfl, hv2, hr2⟩ := hr'.inv
  cases hr2.inv_nil
  obtain ⟨a, its, rfl, _, hp, hL⟩ := hv.inv_list
  obtain ⟨u, rfl⟩ := hv2.inv_str
  exact count_list_strs hp.isList (rpl_strs hL) (hQ _ _ (kp_tok _ _) (rp_int ..))
/-- a method of a list -/
theorem list_ty {l : List PV} (K : Addr → Prop) (v : Value) (s' : Shared) (h : Rp K (.list l) v s'.heap) : s'.TypeIs v "list" ∧ (∀ a, v = .ref a → ∃ ob, s'.heap.get? a = some ob ∧ ob.dict = none) := by
  obtain ⟨a, its, rfl, _, hp, _⟩ := h.inv_list
  refine ⟨hp.isList.typeIs, ?_⟩
  rintro b e
  cases e
  obtain ⟨n, e⟩ := hp
  exact ⟨_, e, rfl⟩
set_option maxRecDepth 100000 in
set_option maxHeartbeats 4000000 in
theorem law8 (X : Ctx prog w A env base mg mb aS vs L fa cd) (h : LW env base (r7 aS vs) s) {E : Value → Shared → Prop} {Q : Flow → Shared → Prop}
    (hQ : ∀ s', LW env base (r8 aS vs) s' → wpAny (model prog w) A (execs (lawB.drop 9) env) Q E s') :
    wpAny (model prog w) A (execs (lawB.drop 8) env) Q E s := by
  have hE := X.hE
  have kN : env.kindOf (Str.ofString "names") = some .cell := by subst hE; kernel_rfl
  have cN : env.cells.lookup (Str.ofString "names") = some (L + 4) := by subst hE; kernel_rfl
  have kT : env.kindOf (Str.ofString "told") = some .cell := by subst hE; kernel_rfl
  have cT : env.cells.lookup (Str.ofString "told") = some (L + 7) := by subst hE; kernel_rfl
  have vN := h.var (x := Str.ofString "names") (pv := .list ((nms vs).map PV.str)) (.inr ⟨kN, by rw [cN]; rfl⟩) (by kernel_rfl)
  have vT := h.var (x := Str.ofString "told") (pv := .list ((List.range 8).map fun k => .list ((tl vs k).map PV.str))) (.inr ⟨kT, by rw [cT]; rfl⟩) (by kernel_rfl)
  show wpAny _ _ (execs (_ :: _) _) _ _ _
  with_reducible refine ex_comp (cl := [(Str.ofString "told", L + 7)]) (l := (nms vs).map PV.str) X.FA h (fun _ h => h.elim) X.hh (by subst hE; kernel_rfl) (by subst hE; kernel_rfl) (by subst hE; kernel_rfl) (by kernel_rfl) (by decide +kernel) ((ev_var X.kf vN (by decide +kernel) (by decide +kernel)).imp fun _ _ _ h => IterOf.ofL h) (sz_le 3 (by kernel_rfl) (by decide)) ?_ (fun _ => true) (fun j => .list ((colL j).map PV.int)) (fun C i pv v s₃ T Y' hY hY' hi hr hsl k₃ => ⟨tsts_nil, fun _ => ?_⟩) (by intro _; kernel_rfl) (fun s' hl => ?_)
  · right
    subst hE
    exact ⟨fun _ _ => by kernel_rfl, fun _ => by kernel_rfl, by kernel_rfl⟩
  · obtain ⟨hi3, rfl⟩ : i < 3 ∧ pv = .str (nm (plD vs i)) := by
      match i, hi with
      | 0, e => cases e; exact ⟨by decide, rfl⟩
      | 1, e => cases e; exact ⟨by decide, rfl⟩
      | 2, e => cases e; exact ⟨by decide, rfl⟩
    generalize hCe : compEnvC _ _ C env = ce at hsl ⊢
    have kf : ce.scope.kind = .function := by subst hCe hE; kernel_rfl
    have vk := hsl.var hr
    have kK : ce.kindOf (Str.ofString "name") = some .cell := by subst hCe hE; kernel_rfl
    have cK : ce.cells.lookup (Str.ofString "name") = some (C + 1) := by subst hCe hE; kernel_rfl
    have vT3 : VarIs ce s₃ Y' (Str.ofString "told") (.list ((List.range 8).map fun k => .list ((tl vs k).map PV.str))) := in_var vT k₃ hY kT cT (by subst hCe hE; kernel_rfl) (by subst hCe hE; kernel_rfl)
    with_reducible refine ev_compE (cl := [(Str.ofString "name", C + 1)]) (l := (List.range 8).map fun k => .list ((tl vs k).map PV.str)) X.hh ?_ (by kernel_rfl) (by decide +kernel) hY' ((ev_var kf vT3 (by decide +kernel) (by decide +kernel)).imp fun _ _ _ h => IterOf.ofL h) (sz_le 8 (by kernel_rfl) (by decide)) ?_ (fun _ => true) (fun k => .int (if k.testBit i then 1 else 0)) (fun C2 j pv v s₄ T4 Y4 hY4 hY4' hj hr4 hsl4 k₄ => ⟨tsts_nil, fun _ => ?_⟩) (by intro _; kernel_rfl) ?_
    · subst hCe hE; kernel_rfl
    · left
      subst hCe hE
      exact ⟨fun _ _ => by kernel_rfl, fun _ => by kernel_rfl, by kernel_rfl⟩
    · obtain ⟨hj8, rfl⟩ : j < 8 ∧ pv = .list ((tl vs j).map PV.str) := by
        rw [List.getElem?_map] at hj
        obtain ⟨k, hk, rfl⟩ := Option.map_eq_some_iff.mp hj
        obtain ⟨hk1, hk2⟩ := List.getElem?_eq_some_iff.mp hk
        rw [List.length_range] at hk1
        rw [List.getElem_range] at hk2
        subst hk2
        exact ⟨hk1, rfl⟩
      generalize hCd : compEnvC _ _ C2 ce = cf at hsl4 ⊢
      have kf4 : cf.scope.kind = .function := by subst hCd hCe hE; kernel_rfl
      have vj := hsl4.var hr4
      have vk4 : VarIs cf s₄ Y4 (Str.ofString "name") (.str (nm (plD vs i))) := in_var vk k₄ hY4 kK cK (by subst hCd hCe hE; kernel_rfl) (by subst hCd hCe hE; kernel_rfl)
      have hcc := count_cn (prog := prog) (w := w) (A := A) (s := s₄) (nm (plD vs i)) (tl vs j)
      rw [col_count vs j hj8 i hi3] at hcc
      with_reducible refine ev_meth (T := "list") (id := "list.count") (P₀ := fun K => Rp K (.list ((tl vs j).map PV.str))) (P := fun K => Rp K (.int (if j.testBit i then 1 else 0))) (ev_var kf4 vj (by decide +kernel) (by decide +kernel)) (Rp.ok _) (Rp.ok _) ?_ (evl_cons (pv := .str (nm (plD vs i))) (ev_var kf4 vk4 (by decide +kernel) (by decide +kernel)) evl_nil (se_name ..)) ?_ (by subst hCd hCe hE; kernel_rfl) (by subst hCd hCe hE; kernel_rfl) (by decide) PySem.F.plainAttrs_list PySem.F.slot_list_count PySem.F.type_list_count (sh1 (se_name ..)).1 (sh1 (se_name ..)).2
      · exact fun K v s' _ hv => list_ty K v s' hv
      · intro K ov vs' s' E' Q' k' hv hr' hq
        exact hcc K (ov :: vs') s' E' Q' k' (.cons hv hr') hq
    · unfold colL
      kernel_rfl
  · exact hQ s' hl
end
end Mine
namespace Mine
open PySem.Builtin.Math (tlFma tlToFloat)
/-- what fsum makes of numbers that stay finite -/
def fsStep (ps : List UInt64) (x : UInt64) : List UInt64 := let r := Float64.fsumAdd ps x; if Float64.isZero r.2 then r.1 else r.1 ++ [r.2]
def fsParts : List UInt64 → List UInt64 → List UInt64
  | ps, [] => ps
  | ps, x :: r => fsParts (fsStep ps x) r
def fsOk : List UInt64 → List UInt64 → Bool
  | _, [] => true
  | ps, x :: r => Float64.isFinite (Float64.fsumAdd ps x).2 && fsOk (fsStep ps x) r
def fsumF (l : List UInt64) : UInt64 := Float64.fsumEnd (fsParts [] l)
def z3 : UInt64 × UInt64 × UInt64 := (Float64.zero false, Float64.zero false, Float64.zero false)
def spParts : UInt64 × UInt64 × UInt64 → List (UInt64 × UInt64) → UInt64 × UInt64 × UInt64
  | t, [] => t
  | t, (x, y) :: r => spParts (tlFma x y t) r
def spOk : UInt64 × UInt64 × UInt64 → List (UInt64 × UInt64) → Bool
  | _, [] => true
  | t, (x, y) :: r => Float64.isFinite (tlFma x y t).1 && spOk (tlFma x y t) r
def barF (xs : List Int) : UInt64 := Float64.div (fsumF (xs.map Float64.ofInt)) (Float64.ofInt xs.length)
def devF (xs : List Int) : List UInt64 := xs.map fun x => Float64.sub (Float64.ofInt x) (barF xs)
def sxyF (xs ys : List Int) : UInt64 := Float64.add (Float64.ofInt 0) (tlToFloat (spParts z3 ((devF xs).zip (devF ys))))
def covF (xs ys : List Int) : UInt64 := Float64.div (sxyF xs ys) (Float64.ofInt ((xs.length : Int) - 1))
def covOk (xs ys : List Int) : Bool := fsOk [] (xs.map Float64.ofInt) && fsOk [] (ys.map Float64.ofInt) && spOk z3 ((devF xs).zip (devF ys))
theorem fsumAdd_len : ∀ (ps : List UInt64) (x : UInt64), (Float64.fsumAdd ps x).1.length ≤ ps.length
  | [], _ => Nat.le_refl _
  | y :: ps, x => by
    unfold Float64.fsumAdd
    split
    rename_i x' y' _
    have ih := fsumAdd_len ps (Float64.add x' y')
    dsimp only
    split <;> simp only [List.length_cons] <;> omega
theorem fsStep_len (ps : List UInt64) (x : UInt64) : (fsStep ps x).length ≤ ps.length + 1 := by
  have := fsumAdd_len ps x
  unfold fsStep
  dsimp only
  split
  · omega
  · rw [List.length_append]; simp only [List.length_cons, List.length_nil]; omega
theorem not_over {n : Int} (h : n.natAbs < 2 ^ 64) : ¬ Flt.Over n := by
  intro o
  have : (2 : Nat) ^ 64 ≤ 2 ^ 1024 - 2 ^ 970 := by decide +kernel
  simp only [Flt.Over] at o
  generalize (2 : Nat) ^ 1024 - 2 ^ 970 = K at *
  omega
end Mine
set_option maxRecDepth 100000
namespace Mine
theorem kind_fsum : builtinKind "math.fsum" = none := by decide +kernel
theorem plain_fsum : plainId "math.fsum" = true := by decide +kernel
theorem entry_fsum : entryFor table "math.fsum" = some Builtin.«math.fsum» := entryFor_of_tree (by kernel_rfl)
theorem args_fsum (a : Value) : argsOk "math.fsum" ⟨[a], []⟩ := by unfold argsOk; kernel_rfl
theorem plain_fsum_loop : plainId "math.fsum.loop" = true := by decide +kernel
theorem entry_fsum_loop : entryFor table "math.fsum.loop" = some Builtin.«math.fsum.loop» := entryFor_of_tree (by kernel_rfl)
theorem kind_sumprod : builtinKind "math.sumprod" = none := by decide +kernel
theorem plain_sumprod : plainId "math.sumprod" = true := by decide +kernel
theorem entry_sumprod : entryFor table "math.sumprod" = some Builtin.«math.sumprod» := entryFor_of_tree (by kernel_rfl)
theorem args_sumprod (a b : Value) : argsOk "math.sumprod" ⟨[a, b], []⟩ := by unfold argsOk; kernel_rfl
theorem plain_sumprod_loop : plainId "math.sumprod.loop" = true := by decide +kernel
theorem entry_sumprod_loop : entryFor table "math.sumprod.loop" = some Builtin.«math.sumprod.loop» := entryFor_of_tree (by kernel_rfl)
def bitsV (xs : List UInt64) : List Value := xs.map fun x => rawInt x.toNat
theorem bits_back (xs : List UInt64) : (((some (bitsV xs).toArray).getD #[]).toList.map fun | .int i _ => i.toNat.toUInt64 | _ => (0 : UInt64)) = xs := by
  simp only [Option.getD_some, List.toList_toArray]
  unfold bitsV
  rw [List.map_map]
  have : ∀ l : List UInt64, l.map ((fun | .int i _ => i.toNat.toUInt64 | _ => (0 : UInt64)) ∘ fun x => rawInt x.toNat) = l := by
    intro l
    induction l with
    | nil => rfl
    | cons a l ih => rw [List.map_cons, ih]; congr 1; show ((a.toNat : Int)).toNat.toUInt64 = a; simp
  exact this xs
theorem wp_unpack {M : Model} {A : Around} {s : Shared} {T : Addr} {ps : List UInt64} {E : Value → Shared → Prop} {Q : List UInt64 → Shared → Prop} (h1 : s.heap.get? T = some { cls := .type "tuple", data := .seq (bitsV ps).toArray }) (hQ : Q ps s) :
    wpAny M A (seqItems? (.ref T) >>= fun o => pure ((o.getD #[]).toList.map fun | .int i _ => i.toNat.toUInt64 | _ => (0 : UInt64))) Q E s := by
  refine wpAny_bind (wpAny_seqItems h1 rfl (wpAny_pure ?_))
  rw [bits_back]; exact hQ
section
variable {prog : Program} {w : World} {A : Around} {R : Result → Shared → Prop} {I : Addr} {fp wr : List Addr} {n : Nat} {P : Nat → Value → Prop} {St : Nat → Heap → Prop}
theorem fsum_loop (hh : A.handled = none) (W : Walks prog w A.in1 I fp wr n P St) (xs : List Int) (hn : xs.length = n) (hval : ∀ i v, P i v → ∃ t, v = .int (xs.getD i 0) t) (hno : ∀ x ∈ xs, ¬ Flt.Over x) (T2 : Addr) (hTw : T2 ∉ wr) :
    ∀ (k i : Nat) (s : Shared) (ps : List UInt64) (T1 : Addr), n - i = k → i ≤ n → St i s.heap → s.heap.get? T1 = some { cls := .type "tuple", data := .seq (bitsV ps).toArray } → s.heap.get? T2 = some { cls := .type "tuple", data := .seq (bitsV [Float64.zero false, Float64.zero false]).toArray } →
    fsOk ps ((xs.drop i).map Float64.ofInt) = true → ps.length + k ≤ 1000 →
    (∀ h' tk t, (∀ b o, b ∉ wr → s.heap.get? b = some o → h'.get? b = some o) → R (.ok (.ret (.float (Float64.fsumEnd (fsParts ps ((xs.drop i).map Float64.ofInt))) t))) { s with heap := h', toks := tk }) →
    codeAny (model prog w) A (.builtin "math.fsum.loop" ⟨[.ref I, .ref T1, .ref T2], []⟩) R s := by
  intro k
  induction k with
  | zero =>
    intro i s ps T1 hk hi hst h1 h2 hok hlen hR
    have hin : i = n := by omega
    subst hin
    rw [← hn, List.drop_length] at hok hR
    refine codeAny_builtin entry_fsum_loop ?_
    rw [Around.under_plainId plain_fsum_loop _]
    refine wpAny_bind (wp_unpack h1 ?_)
    refine wpAny_bind (wp_unpack h2 ?_)
    show wpAny _ A.in1 (pyNext (.ref I) >>= _) _ _ s
    refine wpAny_bind (W.done s _ _ hst fun h' tk hk' => ?_)
    show wpAny _ A.in1 (if (!Float64.isZero (Float64.zero false)) = true then _ else (mkFloat _ >>= _)) _ _ _
    rw [if_neg (by decide +kernel)]
    refine wpAny_bind (Flt.wp_mkFloat ?_)
    exact wpAny_pure (hR h' _ _ hk')
  | succ k ih =>
    intro i s ps T1 hk hi hst h1 h2 hok hlen hR
    have hlt : i < n := by omega
    have hdrop : xs.drop i = xs.getD i 0 :: xs.drop (i + 1) := by
      rw [List.drop_eq_getElem_cons (by omega)]; congr 1
      rw [List.getD_eq_getElem?_getD, List.getElem?_eq_getElem (by omega)]; rfl
    rw [hdrop, List.map_cons] at hok hR
    obtain ⟨hf, hok'⟩ := Bool.and_eq_true_iff.mp hok
    refine codeAny_builtin entry_fsum_loop ?_
    rw [Around.under_plainId plain_fsum_loop _]
    refine wpAny_bind (wp_unpack h1 ?_)
    refine wpAny_bind (wp_unpack h2 ?_)
    show wpAny _ A.in1 (pyNext (.ref I) >>= _) _ _ s
    refine wpAny_bind (W.item i s _ _ hlt hst fun v h' tk hP hst' hk' => ?_)
    obtain ⟨t, rfl⟩ := hval i v hP
    have hmem : xs.getD i 0 ∈ xs := by
      rw [List.getD_eq_getElem?_getD, List.getElem?_eq_getElem (by omega)]; exact List.getElem_mem _
    refine wpAny_bind (wpAny_holding (Flt.realArg_int (by exact hh) (fun o => absurd o (hno _ hmem)) fun _ => ?_))
    have hl := fsStep_len ps (Float64.ofInt (xs.getD i 0))
    have hst : fsStep ps (Float64.ofInt (xs.getD i 0)) = if Float64.isZero (Float64.fsumAdd ps (Float64.ofInt (xs.getD i 0))).2 then (Float64.fsumAdd ps (Float64.ofInt (xs.getD i 0))).1 else (Float64.fsumAdd ps (Float64.ofInt (xs.getD i 0))).1 ++ [(Float64.fsumAdd ps (Float64.ofInt (xs.getD i 0))).2] := rfl
    generalize Float64.fsumAdd ps (Float64.ofInt (xs.getD i 0)) = lt at hst hf ⊢
    obtain ⟨low, top⟩ := lt
    dsimp only at hst hf ⊢
    rw [if_pos hf, ← hst]
    have hsz : sizeOk (.seq (bitsV (fsStep ps (Float64.ofInt (xs.getD i 0)))).toArray) := by
      show (bitsV (fsStep ps (Float64.ofInt (xs.getD i 0)))).toArray.size ≤ sizeLine
      unfold bitsV
      rw [List.size_toArray, List.length_map, sizeLine_eq]; omega
    show wpAny _ A.in1 (newTuple (bitsV (fsStep ps (Float64.ofInt (xs.getD i 0)))) >>= _) _ _ _
    refine wpAny_bind (wpAny_newObj_type ?_ hsz)
    have up : ∀ b o, h'.get? b = some o → (h'.push { cls := .type "tuple", data := .seq (bitsV (fsStep ps (Float64.ofInt (xs.getD i 0)))).toArray }).get? b = some o := fun b o e => Heap.get?_push_of_some _ e
    refine wpAny_pure ⟨plainId_quiet plain_fsum_loop _, ih (i + 1) _ (fsStep ps (Float64.ofInt (xs.getD i 0))) _ (by omega) hlt (W.frame _ _ _ hst' fun b _ o e => up _ _ e) (Heap.get?_push_size _ rfl) (up _ _ (hk' _ _ hTw h2)) hok' (by omega) fun h'' tk'' t'' hk'' => ?_⟩
    exact hR h'' tk'' t'' fun b o hbw e => hk'' b o hbw (up _ _ (hk' b o hbw e))
end
section
variable {prog : Program} {w : World} {A : Around} {s : Shared}
theorem fsum_cn (hh : A.handled = none) (xs : List Int) (hno : ∀ x ∈ xs, x.natAbs < 2 ^ 64) (hlen : xs.length ≤ 1000) (hok : fsOk [] (xs.map Float64.ofInt) = true) :
    Cn prog w A s (.builtin "math.fsum") [.list (xs.map PV.int)] (fun K => Rp K (.flt (fsumF (xs.map Float64.ofInt)))) := by
  intro K vs s' E Q k hr hQ
  obtain ⟨v, vs', rfl, hv, hr'⟩ := hr.inv
  cases hr'.inv_nil
  obtain ⟨a, its, rfl, _, hp, hL⟩ := hv.inv_list
  have hlen' : its.toArray.size = xs.length := by rw [List.size_toArray, hL.length, List.length_map]
  refine call_function_tree kind_fsum plain_fsum entry_fsum (args_fsum _) ?_
  show wpAny _ A.in1 (pyIter (.ref a) >>= _) _ _ s'
  refine wpAny_bind (list_it (A := A.in1) hh hp.isList fun h' W hst hfp up => ?_)
  rw [hlen'] at W
  show wpAny _ A.in1 ((newTuple (bitsV [])) >>= _) _ _ _
  refine wpAny_bind (wpAny_newObj_type ?_ (by show 0 ≤ sizeLine; exact Nat.zero_le _))
  show wpAny _ A.in1 ((newTuple (bitsV [Float64.zero false, Float64.zero false])) >>= _) _ _ _
  refine wpAny_bind (wpAny_newObj_type ?_ (by show 2 ≤ sizeLine; decide))
  have u1 : ∀ b o, h'.get? b = some o → (h'.push { cls := .type "tuple", data := .seq (bitsV []).toArray }).get? b = some o := fun b o e => Heap.get?_push_of_some _ e
  have u2 : ∀ b o, (h'.push { cls := .type "tuple", data := .seq (bitsV []).toArray }).get? b = some o → ((h'.push { cls := .type "tuple", data := .seq (bitsV []).toArray }).push { cls := .type "tuple", data := .seq (bitsV [Float64.zero false, Float64.zero false]).toArray }).get? b = some o := fun b o e => Heap.get?_push_of_some _ e
  have hI : s'.heap.objs.size < h'.objs.size := hfp _ List.mem_cons_self
  refine wpAny_pure ⟨plainId_quiet plain_fsum_loop _, fsum_loop hh W xs rfl (fun i v e => rpl_ints hL i v (by simpa using e)) (fun x hx => not_over (hno x hx)) _ ?_ xs.length 0 _ [] h'.objs.size rfl (Nat.zero_le _) (W.frame _ _ _ hst fun b _ o e => u2 _ _ (u1 _ _ e)) (u2 _ _ (Heap.get?_push_size _ rfl)) (Heap.get?_push_size _ rfl) hok (by rw [List.length_nil]; omega) fun h'' tk t hk => ?_⟩
  · rw [Heap.size_push]
    simp only [List.mem_cons, List.not_mem_nil, or_false]
    exact Nat.ne_of_gt (Nat.lt_succ_of_lt hI)
  · refine hQ _ _ (kp_mk fun b o e => hk b o ?_ (u2 _ _ (u1 _ _ (up _ _ e)))) (rp_flt ..)
    simp only [List.mem_cons, List.not_mem_nil, or_false]
    exact Nat.ne_of_lt (Heap.lt_size e)
end
end Mine
set_option maxRecDepth 100000
namespace Mine
open PySem.Builtin.Math (tlFma tlToFloat)
/-- what two walks side by side leave -/
structure Rl (wr : List Addr) (s s' : Shared) : Prop where
  heap : ∀ b o, b ∉ wr → s.heap.get? b = some o → s'.heap.get? b = some o
  gens : AllBare s.gens → AllBare s'.gens
  os : s'.os = s.os
theorem Rl.trans {wr : List Addr} {a b c : Shared} (x : Rl wr a b) (y : Rl wr b c) : Rl wr a c := ⟨fun q o h e => y.heap q o h (x.heap q o h e), fun h => y.gens (x.gens h), y.os.trans x.os⟩
theorem Rl.refl (wr : List Addr) (s : Shared) : Rl wr s s := ⟨fun _ _ _ e => e, fun h => h, rfl⟩
theorem Rl.keeps {wr : List Addr} {a b : Shared} (k : Keeps a b) : Rl wr a b := by
  obtain ⟨h, t, rfl, u⟩ := k
  exact ⟨fun q o _ e => u q o e, fun h => h, rfl⟩
structure Two (prog : Program) (w : World) (A : Around) (I1 I2 : Addr) (wr : List Addr) (n : Nat) (f1 f2 : Nat → UInt64) (J : Nat → Nat → Shared → Prop) : Prop where
  up : ∀ i j s s', J i j s → Keeps s s' → J i j s'
  lt : ∀ i j s, J i j s → ∀ b ∈ wr, b < s.heap.objs.size
  next1 : ∀ i s (Q : Option Value → Shared → Prop) (E : Value → Shared → Prop), i < n → J i i s → (∀ t s', J (i + 1) i s' → Rl wr s s' → Q (some (.float (f1 i) t)) s') → wpAny (model prog w) A (pyNext (.ref I1)) Q E s
  next2 : ∀ i s (Q : Option Value → Shared → Prop) (E : Value → Shared → Prop), i < n → J (i + 1) i s → (∀ t s', J (i + 1) (i + 1) s' → Rl wr s s' → Q (some (.float (f2 i) t)) s') → wpAny (model prog w) A (pyNext (.ref I2)) Q E s
  done1 : ∀ s (Q : Option Value → Shared → Prop) (E : Value → Shared → Prop), J n n s → (∀ s', J (n + 1) n s' → Rl wr s s' → Q none s') → wpAny (model prog w) A (pyNext (.ref I1)) Q E s
  done2 : ∀ s (Q : Option Value → Shared → Prop) (E : Value → Shared → Prop), J (n + 1) n s → (∀ s', Rl wr s s' → Q none s') → wpAny (model prog w) A (pyNext (.ref I2)) Q E s
def t3 (t : UInt64 × UInt64 × UInt64) : List UInt64 := [t.1, t.2.1, t.2.2]
section
variable {prog : Program} {w : World} {A : Around} {R : Result → Shared → Prop} {I1 I2 : Addr} {wr : List Addr} {n : Nat} {f1 f2 : Nat → UInt64} {J : Nat → Nat → Shared → Prop}
def prs (f1 f2 : Nat → UInt64) (n i : Nat) : List (UInt64 × UInt64) := (List.range (n - i)).map fun k => (f1 (i + k), f2 (i + k))
theorem prs_cons (i : Nat) (h : i < n) : prs f1 f2 n i = (f1 i, f2 i) :: prs f1 f2 n (i + 1) := by
  unfold prs
  rw [show n - i = (n - (i + 1)) + 1 by omega, List.range_succ_eq_map, List.map_cons, List.map_map]
  congr 1
  refine List.map_congr_left fun k _ => ?_
  simp only [Function.comp_apply]
  rw [show i + Nat.succ k = i + 1 + k by omega]
theorem u_back (x : UInt64) : ((x.toNat : Int)).toNat.toUInt64 = x := by simp
theorem sp_loop (T : Two prog w A.in1 I1 I2 wr n f1 f2 J) :
    ∀ (k i : Nat) (s : Shared) (t : UInt64 × UInt64 × UInt64) (TT : Addr) (z : Tok) (io fu : Bool), n - i = k → i ≤ n → (i = 0 → 0 < n) → (0 < i → io = false ∧ fu = true) → J i i s → s.heap.get? TT = some { cls := .type "tuple", data := .seq (bitsV (t3 t)).toArray } → TT ∉ wr →
    spOk t (prs f1 f2 n i) = true →
    (∀ s' u, Rl wr s s' → R (.ok (.ret (.float (Float64.add (Float64.ofInt 0) (tlToFloat (spParts t (prs f1 f2 n i)))) u))) s') →
    codeAny (model prog w) A (.builtin "math.sumprod.loop" ⟨[.ref I1, .ref I2, .int 0 z, .bool io, rawInt 0, .bool false, .bool true, .ref TT, .bool fu], []⟩) R s := by
  intro k
  induction k with
  | zero =>
    intro i s t TT z io fu hk hi h0 h1 hJ hT hTw hok hR
    have hin : i = n := by omega
    subst hin
    obtain ⟨rfl, rfl⟩ := h1 (by omega)
    refine codeAny_builtin entry_sumprod_loop ?_
    rw [Around.under_plainId plain_sumprod_loop _]
    show wpAny _ A.in1 (seqItems? (.ref TT) >>= _) _ _ s
    refine wpAny_bind (wpAny_seqItems hT rfl ?_)
    show wpAny _ A.in1 (pyNext (.ref I1) >>= _) _ _ s
    refine wpAny_bind (T.done1 s _ _ hJ fun s' hJ' hr => ?_)
    show wpAny _ A.in1 (holding [] (pyNext (.ref I2)) >>= _) _ _ s'
    refine wpAny_bind (wpAny_holding (T.done2 s' _ _ hJ' fun s'' hr' => ?_))
    show wpAny _ A.in1 (rule "math.sumprod.leaves-floats" >>= _) _ _ s''
    refine wpAny_bind (wpAny_rule ?_)
    show wpAny _ A.in1 (mkFloat (tlToFloat ((↑t.fst.toNat : Int).toNat.toUInt64, (↑t.snd.fst.toNat : Int).toNat.toUInt64, (↑t.snd.snd.toNat : Int).toNat.toUInt64)) >>= _) _ _ s''
    rw [u_back, u_back, u_back]
    refine wpAny_bind (Flt.wp_mkFloat ?_)
    have hov : ¬ Float64.isInf (Float64.ofInt 0) = true := by decide +kernel
    refine wpAny_bind (wpAny_holding (AutoFloatOps.add_if_1 hov ?_))
    have e : prs f1 f2 i i = [] := by unfold prs; rw [Nat.sub_self]; rfl
    rw [e] at hR
    exact wpAny_pure (hR _ _ ((hr.trans hr').trans (Rl.keeps (kp_tok _ _))))
  | succ k ih =>
    intro i s t TT z io fu hk hi h0 h1 hJ hT hTw hok hR
    have hlt : i < n := by omega
    rw [prs_cons i hlt] at hok hR
    obtain ⟨hf, hok'⟩ := Bool.and_eq_true_iff.mp hok
    refine codeAny_builtin entry_sumprod_loop ?_
    rw [Around.under_plainId plain_sumprod_loop _]
    show wpAny _ A.in1 (seqItems? (.ref TT) >>= _) _ _ s
    refine wpAny_bind (wpAny_seqItems hT rfl ?_)
    show wpAny _ A.in1 (pyNext (.ref I1) >>= _) _ _ s
    refine wpAny_bind (T.next1 i s _ _ hlt hJ fun t1 s₁ hJ₁ hr₁ => ?_)
    show wpAny _ A.in1 (holding _ (pyNext (.ref I2)) >>= _) _ _ s₁
    refine wpAny_bind (wpAny_holding (T.next2 i s₁ _ _ hlt hJ₁ fun t2 s₂ hJ₂ hr₂ => ?_))
    have goOn : ∀ s₂', Keeps s₂ s₂' → wpAny (model prog w) A.in1 (if Float64.isFinite (tlFma (f1 i) (f2 i) t).1 = true then (newTuple (bitsV (t3 (tlFma (f1 i) (f2 i) t))) >>= fun tt => again (.builtin "math.sumprod.loop" ⟨[.ref I1, .ref I2, .int 0 z, .bool false, rawInt 0, .bool false, .bool true, tt, .bool true], []⟩)) else pure (.done .next))
        (fun fin s' => match fin with
          | .done f => R (.ok f) s'
          | .again c' => c'.quiet = true ∧ codeAny (model prog w) A c' R s') (fun e s' => R (.error e) s') s₂' := by
      intro s₂' k₂
      rw [if_pos hf]
      refine wpAny_bind (wpAny_newObj_type ?_ (by show 3 ≤ sizeLine; decide))
      have k₃ : Keeps s₂' { s₂' with heap := s₂'.heap.push { cls := .type "tuple", data := .seq (bitsV (t3 (tlFma (f1 i) (f2 i) t))).toArray } } := kp_push _ _
      refine wpAny_pure ⟨plainId_quiet plain_sumprod_loop _, ih (i + 1) _ (tlFma (f1 i) (f2 i) t) _ z false true (by omega) hlt (fun h => by omega) (fun _ => ⟨rfl, rfl⟩) (T.up _ _ _ _ hJ₂ (kp_trans k₂ k₃)) (Heap.get?_push_size _ rfl) ?_ hok' fun s' u hr => ?_⟩
      · exact fun hm => Nat.lt_irrefl _ (T.lt _ _ _ (T.up _ _ _ _ hJ₂ k₂) _ hm)
      · exact hR s' u (((hr₁.trans hr₂).trans (Rl.keeps (kp_trans k₂ k₃))).trans hr)
    cases io with
    | false =>
      show wpAny _ A.in1 (if Float64.isFinite (tlFma (f1 i) (f2 i) ((↑t.fst.toNat : Int).toNat.toUInt64, (↑t.snd.fst.toNat : Int).toNat.toUInt64, (↑t.snd.snd.toNat : Int).toNat.toUInt64)).1 = true then (newTuple _ >>= _) else _) _ _ s₂
      rw [u_back, u_back, u_back]
      have g := goOn s₂ (kp_refl _)
      rw [if_pos hf] at g ⊢
      exact g
    | true =>
      show wpAny _ A.in1 (rule _ >>= _) _ _ s₂
      refine wpAny_bind (wpAny_rule ?_)
      show wpAny _ A.in1 (if Float64.isFinite (tlFma (f1 i) (f2 i) ((↑t.fst.toNat : Int).toNat.toUInt64, (↑t.snd.fst.toNat : Int).toNat.toUInt64, (↑t.snd.snd.toNat : Int).toNat.toUInt64)).1 = true then (newTuple _ >>= _) else _) _ _ s₂
      rw [u_back, u_back, u_back]
      have g := goOn s₂ (kp_refl _)
      rw [if_pos hf] at g ⊢
      exact g
theorem sp_call {s : Shared} {E : Value → Shared → Prop} {Q : Value → Shared → Prop} (hn : 0 < n) (T : Two prog w A.in1 I1 I2 wr n f1 f2 J) (hJ : J 0 0 s)
    (hi1 : ∀ s Q E, J 0 0 s → Q (.ref I1) s → wpAny (model prog w) A.in1 (pyIter (.ref I1)) Q E s) (hi2 : ∀ s Q E, J 0 0 s → Q (.ref I2) s → wpAny (model prog w) A.in1 (pyIter (.ref I2)) Q E s)
    (hok : spOk z3 (prs f1 f2 n 0) = true) (hQ : ∀ s' u, Rl wr s s' → Q (.float (Float64.add (Float64.ofInt 0) (tlToFloat (spParts z3 (prs f1 f2 n 0)))) u) s') :
    wpAny (model prog w) A (call (.builtin "math.sumprod") [.ref I1, .ref I2]) Q E s := by
  refine call_function_tree kind_sumprod plain_sumprod entry_sumprod (args_sumprod _ _) ?_
  show wpAny _ A.in1 (pyIter (.ref I1) >>= _) _ _ s
  refine wpAny_bind (hi1 _ _ _ hJ ?_)
  show wpAny _ A.in1 (holding _ (pyIter (.ref I2)) >>= _) _ _ s
  refine wpAny_bind (wpAny_holding (hi2 _ _ _ hJ ?_))
  show wpAny _ A.in1 (mkInt 0 >>= _) _ _ s
  refine wpAny_bind (wpAny_mkInt ?_)
  show wpAny _ A.in1 (newTuple (bitsV (t3 z3)) >>= _) _ _ _
  refine wpAny_bind (wpAny_newObj_type ?_ (by show 3 ≤ sizeLine; decide))
  have k : Keeps s { s with heap := s.heap.push { cls := .type "tuple", data := .seq (bitsV (t3 z3)).toArray }, toks := s.toks + 1 } := kp_mk fun b o e => Heap.get?_push_of_some _ e
  refine wpAny_pure ⟨plainId_quiet plain_sumprod_loop _, sp_loop T n 0 _ z3 _ _ true false rfl (Nat.zero_le _) (fun _ => hn) (fun h => absurd h (Nat.lt_irrefl _)) (T.up _ _ _ _ hJ k) (Heap.get?_push_size _ rfl) (fun hm => Nat.lt_irrefl _ (T.lt _ _ _ hJ _ hm)) hok fun s' u hr => ?_⟩
  exact hQ s' u ((Rl.keeps k).trans hr)
end
end Mine
set_option maxRecDepth 100000
namespace Mine
section
variable {prog : Program} {w : World} {A : Around} {env : Env} {s : Shared} {Y : Addr → Prop}
/-- a code's table of places, and what it holds -/
structure Tab (c P : Addr) (ps : Array Value) (h : Heap) : Prop where
  code : h.IsCode c P ps
  tab : h.TableAt c P ps
theorem Tab.up {c P : Addr} {ps : Array Value} {h h' : Heap} (x : Tab c P ps h) (u : Up h h') : Tab c P ps h' := ⟨x.code.keeps u, x.tab.keeps u⟩
/-- what a generator upon a list leaves -/
structure GenF (prog : Program) (w : World) (A : Around) (c P : Addr) (ps : Array Value) (s s₅ : Shared) (a C I ax ca : Addr) (n : Nat) (F : Nat → Value → Prop) : Prop where
  keep : ∀ b o, b ≠ P → s.heap.get? b = some o → s₅.heap.get? b = some o
  bare : AllBare s.gens → AllBare s₅.gens
  os : s₅.os = s.os
  gsz : s₅.gens.size = s.gens.size + 1
  gold : ∀ k, k < s.gens.size → s₅.gens[k]? = s.gens[k]?
  tab : ∃ more, Tab c P (ps ++ more) s₅.heap
  na : s.heap.get? a = none
  nC : s.heap.get? C = none
  nI : s.heap.get? I = none
  Ca : C < a
  Ia : I < a
  CI : C ≠ I
  ea : ∃ o, s₅.heap.get? a = some o
  eC : ∃ o, s₅.heap.get? C = some o
  eI : ∃ o, s₅.heap.get? I = some o
  la : a < s₅.heap.objs.size
  lC : C < s₅.heap.objs.size
  lI : I < s₅.heap.objs.size
  at0 : GenAt prog w A.in4 a s.gens.size C [I, ax, ca, cStatics] [I] (fun _ => true) n F 0 s₅
theorem new_none {s s' : Shared} (k : Keeps s s') {b : Addr} (h : s'.heap.objs.size ≤ b) : s.heap.get? b = none := by
  cases e : s.heap.get? b with
  | none => rfl
  | some o => exact absurd (Heap.lt_size (kp_up k _ _ e)) (Nat.not_lt.mpr h)
theorem genexpr_any {c P : Addr} {ps : Array Value} {pos : Pos} {qualname : Str} {scope : Scope} {E : Value → Shared → Prop} {Q : Value → Shared → Prop} {M : Model} (hc : env.code = .ref c) (ht : Tab c P ps s.heap)
    (hQ : ∀ v h' tk more, Heap.ExtBut P s.heap h' → s.heap.objs.size ≤ h'.objs.size → Tab c P (ps ++ more) h' → Q v { s with heap := h', toks := tk }) : wpAny M A (genexprCode env pos qualname scope) Q E s := by
  cases hf : codeAmong pos ps.toList with
  | some c' => exact wpAny_genexprCode_hit hc ht.code hf (hQ _ s.heap s.toks #[] (Heap.ExtBut.refl _ _) (Nat.le_refl _) (by simpa using ht))
  | none => exact wpAny_genexprCodeX hc ht.code ht.tab hf fun c' h' tk hx h1 h2 hi _ htb _ => hQ _ h' tk _ hx (Nat.le_trans h1 (Nat.le_of_lt h2)) ⟨hi, htb⟩
theorem gen_make {elt : Expr} {x y : Str} {px py pos : Pos} {scope : Scope} {cl : List (Str × Addr)} {ax ca c P bm : Addr} {ps : Array Value} {items : Array Value} {F : Nat → Value → Prop} {mg : Str → Option Value} {ob : Obj} {E : Value → Shared → Prop} {Q : Value → Shared → Prop}
    (hcode : env.code = .ref c) (ht : Tab c P ps s.heap) (hPs : P ≠ cStatics) (hl : s.heap.NoLimit) (M : BMod s.heap env.globals mg bm ob)
    (hh : A.handled = none) (hco : scope.isCoroutine = false) (hclos : closureFor scope env = pure cl) (hcell : ∀ y ∈ scope.names, y.2 ≠ .cell) (h0 : scope.names.lookup (".0" : Str) = some NameKind.local)
    (hx : scope.names.lookup x = some .local) (hkind : scope.kind = .function) (hroom : A.depth < recursionLimit)
    (hit : Ev prog w A env s Y (.Name y py) (fun _ v h => v = .ref ax ∧ h.IsList ax items)) (hax : s.heap.IsList ax items) (hca : ∃ o, s.heap.get? ca = some o) (hcaP : ca ≠ P)
    (hq : ∀ (C I : Addr) (code : Value) (bi : Addr) (href : Heap), s.heap.get? I = none → (∀ b o, b ≠ P → s.heap.get? b = some o → href.get? b = some o) →
      QuietGen prog w (genEnv scope cl C code bi env) x [] elt [I, ax, ca, cStatics] [I] (fun i v => items[i]? = some v) (fun _ => true) F href)
    (hQ : ∀ a C I s₅, GenF prog w A c P ps s s₅ a C I ax ca items.size F → Q (.ref a) s₅) :
    wpAny (model prog w) A (eval (.GeneratorExp elt [⟨.Name x px, .Name y py, [], 0⟩] scope pos) env) Q E s := by
  refine wpAny_GeneratorExp_make hco hclos hcell h0 hkind hroom (hit s E _ (kp_refl _) fun xv s₁ k₁ hi => ?_) (fun _ => rfl)
  obtain ⟨rfl, hl₁⟩ := hi
  refine wpAny_pyIter_list hl₁ ?_
  have hlt : ax < s₁.heap.objs.size := by obtain ⟨o, e, _⟩ := hl₁; exact Heap.lt_size e
  generalize hH2 : s₁.heap.push { cls := .type "list_iterator", data := .fields #[.ref ax, .int 0 0] } = H2
  have u2 : Up s₁.heap H2 := fun b o e => hH2 ▸ Heap.get?_push_of_some _ e
  have sz2 : H2.objs.size = s₁.heap.objs.size + 1 := by rw [← hH2, Heap.size_push]
  have uA : Up s.heap H2 := (kp_up k₁).trans u2
  have hl2 := hl.keeps uA
  have it2 : H2.IsListIter s₁.heap.objs.size ax 0 := by rw [← hH2]; exact ⟨_, Heap.get?_push_size _ rfl, rfl, rfl⟩
  have hst2 : H2.IsList ax items := hl₁.at fun o e => u2 _ _ e
  have nI : s.heap.get? s₁.heap.objs.size = none := new_none k₁ (Nat.le_refl _)
  have ltP : P < s₁.heap.objs.size := Heap.lt_size (kp_up k₁ _ _ ht.tab.2)
  obtain ⟨oca, hoca⟩ := hca
  have ltca : ca < s₁.heap.objs.size := Heap.lt_size (kp_up k₁ _ _ hoca)
  have ltSt : cStatics < s₁.heap.objs.size := by obtain ⟨_, hn, _⟩ := hl.keeps (kp_up k₁); exact hn.lt
  have haxP : ax ≠ P := fun e => by
    obtain ⟨o, ho, hc, _⟩ := hax
    rw [e, ht.tab.2] at ho; cases ho; exact absurd hc (by simp)
  refine ⟨hl2, genexpr_any hcode (ht.up uA) fun code h₃ tk₃ more hx₃ hsz₃ ht₃ => ?_⟩
  have M₃ : BMod h₃ env.globals mg bm ob := (M.keeps uA).extBut (ht.up uA).tab hx₃
  refine wpAny_builtinsFor M₃.ns M₃.name M₃.ne M₃.obj M₃.cls M₃.dict M₃.data ?_
  intro h₄ hn₄ hs₄
  dsimp only at hn₄ hs₄ hx₃ hsz₃ ⊢
  have hP : ∀ b, b < s₁.heap.objs.size + 1 → b ≠ P → ∀ o, H2.get? b = some o → h₃.get? b = some o := fun b _ hb o e => hx₃ b o hb e
  have sz4 : h₄.objs.size = h₃.objs.size + 1 := by rw [hs₄.1, Heap.size_push]
  have u4 : Up h₃ h₄ := fun b o e => hs₄.extBut b o (Nat.ne_of_lt (Heap.lt_size e)) (Heap.get?_push_of_some _ e)
  generalize hH5 : h₄.push _ = H5
  have u5 : Up h₄ H5 := fun b o e => hH5 ▸ Heap.get?_push_of_some _ e
  have u35 : Up h₃ H5 := u4.trans u5
  have sz5 : H5.objs.size = h₄.objs.size + 1 := by rw [← hH5, Heap.size_push]
  have keep : ∀ b o, b ≠ P → s.heap.get? b = some o → H5.get? b = some o := fun b o hb e => u35 _ _ (hx₃ b o hb (uA _ _ e))
  have ltI : s₁.heap.objs.size < h₃.objs.size := by rw [sz2] at hsz₃; exact hsz₃
  have hCst : cStatics ≠ h₃.objs.size := Nat.ne_of_lt (Nat.lt_trans ltSt ltI)
  have hne : ax ≠ s₁.heap.objs.size := Nat.ne_of_lt hlt
  refine hQ _ h₃.objs.size s₁.heap.objs.size _ ⟨keep, fun hb => ?_, ?_, ?_, ?_, ⟨more, ht₃.up u35⟩, ?_, ?_, nI, ?_, ?_, ?_, ?_, ?_, ?_, ?_, ?_, ?_, ?_⟩
  · obtain ⟨_, t₁, rfl, _⟩ := k₁
    exact hb.push rfl
  · obtain ⟨_, t₁, rfl, _⟩ := k₁; rfl
  · obtain ⟨_, t₁, rfl, _⟩ := k₁
    exact Array.size_push ..
  · obtain ⟨_, t₁, rfl, _⟩ := k₁
    intro k hk
    exact Array.getElem?_push_lt hk ▸ (by simp [hk])
  · refine new_none k₁ ?_
    rw [sz4]; omega
  · exact new_none k₁ (by omega)
  · rw [sz4]; exact Nat.lt_succ_self _
  · rw [sz4]; exact Nat.lt_succ_of_lt ltI
  · exact Nat.ne_of_gt ltI
  · rw [← hH5]; exact ⟨_, Heap.get?_push_size _ rfl⟩
  · obtain ⟨o, es, ep, ho, _⟩ := hn₄.keeps u5
    exact ⟨o, ho⟩
  · obtain ⟨o, ho, _⟩ := it2
    exact ⟨o, u35 _ _ (hx₃ _ o (Nat.ne_of_gt ltP) ho)⟩
  · show h₄.objs.size < H5.objs.size; rw [sz5]; exact Nat.lt_succ_self _
  · show h₃.objs.size < H5.objs.size; rw [sz5, sz4]; omega
  · show s₁.heap.objs.size < H5.objs.size; rw [sz5, sz4]; exact Nat.lt_succ_of_lt (Nat.lt_succ_of_lt ltI)
  · have hsubf : ∀ b ∈ [s₁.heap.objs.size, ax], b ∈ [s₁.heap.objs.size, ax, ca, cStatics] := by
      intro b hb
      simp only [List.mem_cons, List.not_mem_nil, or_false] at hb ⊢
      rcases hb with h | h
      · exact .inl h
      · exact .inr (.inl h)
    have hCf : h₃.objs.size ∉ [s₁.heap.objs.size, ax, ca, cStatics] := by
      have g1 : h₃.objs.size ≠ s₁.heap.objs.size := Nat.ne_of_gt ltI
      have g2 : h₃.objs.size ≠ ax := Nat.ne_of_gt (Nat.lt_trans hlt ltI)
      have g3 : h₃.objs.size ≠ ca := Nat.ne_of_gt (Nat.lt_trans ltca ltI)
      simp only [List.mem_cons, List.not_mem_nil, or_false, not_or]
      exact ⟨g1, g2, g3, Ne.symm hCst⟩
    have hgn : H5.IsGen h₄.objs.size s.gens.size := by
      obtain ⟨_, t₁, rfl, _⟩ := k₁
      rw [← hH5]
      exact ⟨_, _, _, Heap.get?_push_size _ rfl, rfl, rfl, rfl⟩
    refine GenAt.fresh (A := A.in4) (elt := elt) (iter := .Name y py) (x := x) (px := px) (ifs := []) (scope := scope) (pos := pos) (cenv := genEnv scope cl h₃.objs.size code builtinsNs env) (m := fun y => if y = ".0" then some (.ref s₁.heap.objs.size) else none) hh
      (fun A' hA => (Walks.list hA _ _ hne items).mono_fp hsubf) (fun _ => true) F hx (by simp [genEnv, hkind]) hco hCf (hq _ _ _ _ _ nI keep) hgn ?_ ?_ (hn₄.keeps u5) ?_
    · obtain ⟨_, t₁, rfl, _⟩ := k₁
      exact Array.getElem?_push_size ..
    · refine ⟨?_, hst2.at fun o e => u35 _ _ (hx₃ ax o haxP e)⟩
      obtain ⟨o, ho, r⟩ := it2
      exact ⟨o, u35 _ _ (hx₃ _ o (Nat.ne_of_gt ltP) ho), r⟩
    · obtain ⟨mc, hns, hnn⟩ := hl2
      exact ⟨mc, hns.at' fun o e => u35 _ _ (hx₃ _ o (Ne.symm hPs) e), hnn⟩
end
end Mine
set_option maxRecDepth 100000
namespace Mine
section
variable {prog : Program} {w : World} {A : Around}
theorem GenAt.move {a C : Addr} {g n j : Nat} {fp wr : List Addr} {pz : Nat → Bool} {F : Nat → Value → Prop} {s s' : Shared} (x : GenAt prog w A a g C fp wr pz n F j s) (hcs : cStatics ∈ fp)
    (hk : ∀ b ∈ a :: C :: fp, ∀ o, s.heap.get? b = some o → s'.heap.get? b = some o) (hg : s'.gens[g]? = s.gens[g]?) : GenAt prog w A a g C fp wr pz n F j s' :=
  ⟨let ⟨o, nm, qn, ho, r⟩ := x.1; ⟨o, nm, qn, hk a (List.mem_cons_self ..) o ho, r⟩,
   (let ⟨mc, hns, hnn⟩ := x.2.1; ⟨mc, hns.at' fun o e => hk cStatics (List.mem_cons_of_mem _ (List.mem_cons_of_mem _ hcs)) o e, hnn⟩),
   let ⟨gs, hgs, hgo⟩ := x.2.2; ⟨gs, hg.trans hgs, fun s'' hal => hgo s'' fun b hb o e => hal b hb o (hk b (List.mem_cons_of_mem _ hb) o e)⟩⟩
theorem pass_true (n : Nat) : passing (fun _ => true) n 0 = List.range n := by unfold passing; simp
def FF (f : Nat → UInt64) (i : Nat) (y : Value) : Prop := ∃ t, y = .float (f i) t
structure Apart (a₁ C₁ I₁ x₁ c₁ a₂ C₂ I₂ x₂ c₂ : Addr) (g₁ g₂ : Nat) : Prop where
  Ca1 : C₁ < a₁
  Ia1 : I₁ < a₁
  Ca2 : C₂ < a₂
  Ia2 : I₂ < a₂
  p1 : ∀ b ∈ [a₁, C₁, I₁, x₁, c₁, cStatics], b ≠ C₂ ∧ b ≠ I₂
  p2 : ∀ b ∈ [a₂, C₂, I₂, x₂, c₂, cStatics], b ≠ C₁ ∧ b ≠ I₁
  q1 : ∀ b ∈ [I₁, x₁, c₁, cStatics], b ≠ a₁ ∧ b ≠ C₁
  q2 : ∀ b ∈ [I₂, x₂, c₂, cStatics], b ≠ a₂ ∧ b ≠ C₂
  s1 : I₁ ≠ cStatics
  s2 : I₂ ≠ cStatics
  g : g₁ ≠ g₂
variable {a₁ C₁ I₁ x₁ c₁ a₂ C₂ I₂ x₂ c₂ : Addr} {g₁ g₂ n : Nat} {f1 f2 : Nat → UInt64}
def JJ (prog : Program) (w : World) (A : Around) (a₁ C₁ I₁ x₁ c₁ a₂ C₂ I₂ x₂ c₂ : Addr) (g₁ g₂ n : Nat) (f1 f2 : Nat → UInt64) (i j : Nat) (s : Shared) : Prop :=
  s.heap.IsGen a₁ g₁ ∧ s.heap.IsGen a₂ g₂ ∧ (i ≤ n → GenAt prog w A.in4 a₁ g₁ C₁ [I₁, x₁, c₁, cStatics] [I₁] (fun _ => true) n (FF f1) i s) ∧ (j ≤ n → GenAt prog w A.in4 a₂ g₂ C₂ [I₂, x₂, c₂, cStatics] [I₂] (fun _ => true) n (FF f2) j s)
theorem gen_move {a C : Addr} {g : Nat} {s s' : Shared} (x : s.heap.IsGen a g) (hk : ∀ o, s.heap.get? a = some o → s'.heap.get? a = some o) : s'.heap.IsGen a g := let ⟨o, nm, qn, ho, r⟩ := x; ⟨o, nm, qn, hk o ho, r⟩
theorem one_walks (hh : A.handled = none) (hroom : A.depth < recursionLimit) {a C I x c : Addr} (g n : Nat) (F : Nat → Value → Prop) (q : ∀ b ∈ [I, x, c, cStatics], b ≠ a ∧ b ≠ C) (hCa : C < a) (hs : I ≠ cStatics) :
    WalksS prog w A.in1 a (a :: C :: [I, x, c, cStatics]) (C :: [I]) (GenOnlyQ g) n (fun j y => ∃ i, (List.range n)[j]? = some i ∧ F i y) (GenAt prog w A.in4 a g C [I, x, c, cStatics] [I] (fun _ => true) n F) := by
  have W := WalksS.genexpQ (prog := prog) (w := w) (A := A.in4) hh a g C [I, x, c, cStatics] [I] (fun _ => true) n F (Nat.ne_of_gt hCa) (fun h => (q a h).1 rfl) (by intro b hb; simp at hb; simp [hb]) hroom (by simp) (q _ (by simp)).2 (by simp; exact Ne.symm hs)
  rw [pass_true, List.length_range] at W
  exact W.in4_1
theorem two (hh : A.handled = none) (hroom : A.depth < recursionLimit) (D : Apart a₁ C₁ I₁ x₁ c₁ a₂ C₂ I₂ x₂ c₂ g₁ g₂) :
    Two prog w A.in1 a₁ a₂ [C₁, I₁, C₂, I₂] n f1 f2 (JJ prog w A a₁ C₁ I₁ x₁ c₁ a₂ C₂ I₂ x₂ c₂ g₁ g₂ n f1 f2) := by
  have W1 := one_walks (prog := prog) (w := w) hh hroom g₁ n (FF f1) D.q1 D.Ca1 D.s1
  have W2 := one_walks (prog := prog) (w := w) hh hroom g₂ n (FF f2) D.q2 D.Ca2 D.s2
  have ix : ∀ i, i < n → ∀ v (f : Nat → UInt64), (∃ k, (List.range n)[i]? = some k ∧ FF f k v) → ∃ t, v = .float (f i) t := by
    rintro i hi v f ⟨k, hk, hf⟩
    rw [List.getElem?_eq_getElem (by simpa using hi), List.getElem_range] at hk
    cases hk; exact hf
  have gk : ∀ {g g' : Nat} {a b : Array GenState}, GenOnlyQ g a b → g' ≠ g → b[g']? = a[g']? := by
    rintro g g' a b (rfl | ⟨⟨_, h⟩, _⟩) hne
    · rfl
    · exact h _ hne
  have mv1 : ∀ {s s' : Shared}, Moved (C₁ :: [I₁]) (GenOnlyQ g₁) s s' → Rl [C₁, I₁, C₂, I₂] s s' := fun m => ⟨fun b o hb e => m.heap b o (fun h => hb (by
    simp only [List.mem_cons, List.not_mem_nil, or_false] at h ⊢
    rcases h with h | h
    · exact .inl h
    · exact .inr (.inl h))) e, fun hb => m.gens.bare hb, m.os⟩
  have mv2 : ∀ {s s' : Shared}, Moved (C₂ :: [I₂]) (GenOnlyQ g₂) s s' → Rl [C₁, I₁, C₂, I₂] s s' := fun m => ⟨fun b o hb e => m.heap b o (fun h => hb (by
    simp only [List.mem_cons, List.not_mem_nil, or_false] at h ⊢
    rcases h with h | h
    · exact .inr (.inr (.inl h))
    · exact .inr (.inr (.inr h)))) e, fun hb => m.gens.bare hb, m.os⟩
  have off1 : ∀ {b : Addr}, b ≠ C₁ ∧ b ≠ I₁ → b ∉ C₁ :: [I₁] := by
    rintro b ⟨h1, h2⟩ h
    simp only [List.mem_cons, List.not_mem_nil, or_false] at h
    rcases h with h | h
    · exact h1 h
    · exact h2 h
  have off2 : ∀ {b : Addr}, b ≠ C₂ ∧ b ≠ I₂ → b ∉ C₂ :: [I₂] := by
    rintro b ⟨h1, h2⟩ h
    simp only [List.mem_cons, List.not_mem_nil, or_false] at h
    rcases h with h | h
    · exact h1 h
    · exact h2 h
  refine ⟨?_, ?_, ?_, ?_, ?_, ?_⟩
  · rintro i j s s' ⟨h1, h2, h3, h4⟩ k
    have u := kp_up k
    have eg : s'.gens = s.gens := by obtain ⟨_, _, rfl, _⟩ := k; rfl
    exact ⟨h1.keeps u, h2.keeps u, fun hi => GenAt.move (h3 hi) (by simp) (fun b _ o e => u _ _ e) (by rw [eg]), fun hj => GenAt.move (h4 hj) (by simp) (fun b _ o e => u _ _ e) (by rw [eg])⟩
  · rintro i j s ⟨⟨o1, _, _, h1, _⟩, ⟨o2, _, _, h2, _⟩, _⟩ b hb
    have l1 := Heap.lt_size h1
    have l2 := Heap.lt_size h2
    simp only [List.mem_cons, List.not_mem_nil, or_false] at hb
    rcases hb with rfl | rfl | rfl | rfl
    · exact Nat.lt_trans D.Ca1 l1
    · exact Nat.lt_trans D.Ia1 l1
    · exact Nat.lt_trans D.Ca2 l2
    · exact Nat.lt_trans D.Ia2 l2
  · rintro i s Q E hi ⟨h1, h2, h3, h4⟩ hQ
    refine W1.item i s Q E hi (h3 (Nat.le_of_lt hi)) fun v s' hP hst hm => ?_
    obtain ⟨t, rfl⟩ := ix i hi v f1 hP
    refine hQ t s' ⟨hst.1, gen_move (C := C₁) h2 (fun o e => hm.heap a₂ o (off1 (D.p2 a₂ (by simp))) e), fun _ => hst, fun hj => GenAt.move (h4 hj) (by simp) (fun b hb o e => hm.heap b o (off1 (D.p2 b hb)) e) (gk hm.gens (Ne.symm D.g))⟩ (mv1 hm)

  · rintro i s Q E hi ⟨h1, h2, h3, h4⟩ hQ
    refine W2.item i s Q E hi (h4 (Nat.le_of_lt hi)) fun v s' hP hst hm => ?_
    obtain ⟨t, rfl⟩ := ix i hi v f2 hP
    refine hQ t s' ⟨gen_move (C := C₁) h1 fun o e => hm.heap a₁ o (off2 (D.p1 a₁ (by simp))) e, hst.1, fun hj => GenAt.move (h3 hj) (by simp) (fun b hb o e => hm.heap b o (off2 (D.p1 b hb)) e) (gk hm.gens D.g), fun _ => hst⟩ (mv2 hm)
  · rintro s Q E ⟨h1, h2, h3, h4⟩ hQ
    refine W1.done s Q E (h3 (Nat.le_refl _)) fun s' hm => ?_
    refine hQ s' ⟨gen_move (C := C₁) h1 fun o e => hm.heap a₁ o (off1 ⟨Nat.ne_of_gt D.Ca1, Nat.ne_of_gt D.Ia1⟩) e, gen_move (C := C₁) h2 fun o e => hm.heap a₂ o (off1 (D.p2 a₂ (by simp))) e, fun h => by omega, fun hj => GenAt.move (h4 hj) (by simp) (fun b hb o e => hm.heap b o (off1 (D.p2 b hb)) e) (gk hm.gens (Ne.symm D.g))⟩ (mv1 hm)
  · rintro s Q E ⟨h1, h2, h3, h4⟩ hQ
    exact W2.done s Q E (h4 (Nat.le_refl _)) fun s' hm => hQ s' (mv2 hm)
end
end Mine
set_option maxRecDepth 100000
namespace Mine
section
variable {prog : Program} {w : World} {A : Around} {env : Env} {s base : Shared} {Y : Addr → Prop} {mg mb : Str → Option Value} {Sm : Array GenState → Drawn → OsState → Prop} {Xs N : Addr → Prop} {ρ : Str → Option PV}
theorem startC {name : Str} {scope : Scope} {L a : Addr} {cd : Value} {h₁ : Heap} {tk : Nat} {m cm : Str → Option Value} (hk : scope.kind = .function) (hL : base.heap.objs.size ≤ L)
    (hck : ∀ x c, (x, c) ∈ cellsFrom (L + 1) scope.names [] → (envOfC name scope L a cd).kindOf x = some .cell) (F : Fr base.heap L h₁ m) (X : Cl L (cellsFrom (L + 1) scope.names []) h₁ cm) (hSm : Sm base.gens base.drawn base.os)
    (hρ : ∀ x pv, ρ x = some pv → ((envOfC name scope L a cd).kindOf x = some .local → ∃ v, m x = some v ∧ ∃ K, Rp K pv v base.heap) ∧ (∀ c, (cellsFrom (L + 1) scope.names []).lookup x = some c → ∃ v, cm x = some v ∧ ∃ K, Rp K pv v base.heap)) :
    FrameAt (envOfC name scope L a cd) base ∧ LS (envOfC name scope L a cd) base Xs Sm (fun _ => False) ρ { base with heap := h₁, toks := tk } := by
  refine ⟨⟨hk, Heap.get?_none_of_le hL, fun x c e => ?_, fun x y c e1 e2 => ?_, fun x c e => hck x c (mem_of_lookup e)⟩, ⟨fun _ h => h.elim, hSm, fun b o e _ => F.keep b o e, ⟨m, F.ns, fun x hx pv e => ?_⟩, fun x c e => ⟨_, X.cell x c e, fun pv ep => ?_⟩⟩⟩
  · have := X.above x c (mem_of_lookup e)
    exact ⟨Heap.get?_none_of_le (Nat.le_trans hL (Nat.le_of_lt this)), Nat.ne_of_gt this⟩
  · exact name_of_addr X.apart (mem_of_lookup e1) (mem_of_lookup e2)
  · obtain ⟨v, h1, K, h2⟩ := (hρ x pv e).1 hx
    exact ⟨v, h1, (Rp.up h2 F.keep).kn (s := { base with heap := h₁, toks := tk }) fun _ _ h => h⟩
  · obtain ⟨v, h1, K, h2⟩ := (hρ x pv ep).2 c e
    exact ⟨v, h1, (Rp.up h2 F.keep).kn (s := { base with heap := h₁, toks := tk }) fun _ _ h => h⟩
theorem ev_call_gb {f : Str} {p pos : Pos} {es : List Expr} {id : String} {l : List PV} {P : Post} (hk : env.scope.kind = .function) (hx : env.kindOf f = some .globalImplicit) (G : Glb env s mg mb) (h1 : mg f = some (.builtin id))
    (ha : EvL prog w A env s Y pos es l) (hc : Cn prog w A s (.builtin id) l P) (hP : P.Ok) (hd : (f == ("__debug__" : Str)) = false)
    (hsh : ∃ x rest, backTo pos (starEach es env) = (false, x) :: rest) (hpl : (backTo pos (starEach es env)).any (·.1) = false) :
    Ev prog w A env s Y (.Call (.Name f p) es [] pos) P := by
  intro s' E Q k hQ
  refine wpAny_Call_Name_kw (name_g hk hx (G.keeps k) h1 ?_ hd)
  refine Calls.callWith_builtin hpl ?_
  obtain ⟨x, rest, e⟩ := hsh
  have ha' := ha
  unfold EvL at ha'
  rw [e] at ha' ⊢
  refine Calls.evalArgs_plain (ha' s' E _ k fun vs s₁ k₁ h₁ => ?_)
  exact hc (Nw Y s') vs s₁ E Q (kp_trans k k₁) h₁ fun v s₂ k₂ h₂ => hQ v s₂ (kp_trans k₁ k₂) (hP _ _ _ _ _ h₂ (nw_nw k₁) (Up.refl _))
/-- what a call of covariance leaves -/
structure Aft (c P : Addr) (s s' : Shared) : Prop where
  keep : ∀ b o, b ≠ P → s.heap.get? b = some o → s'.heap.get? b = some o
  bare : AllBare s.gens → AllBare s'.gens
  os : s'.os = s.os
  tab : ∀ ps, Tab c P ps s.heap → ∃ more, Tab c P (ps ++ more) s'.heap
theorem Aft.trans {c P : Addr} {a b d : Shared} (x : Aft c P a b) (y : Aft c P b d) : Aft c P a d :=
  ⟨fun q o h e => y.keep q o h (x.keep q o h e), fun h => y.bare (x.bare h), y.os.trans x.os, fun ps t => by
    obtain ⟨m1, t1⟩ := x.tab ps t
    obtain ⟨m2, t2⟩ := y.tab _ t1
    exact ⟨m1 ++ m2, by rw [← Array.append_assoc]; exact t2⟩⟩
theorem Aft.keeps {c P : Addr} {a b : Shared} (k : Keeps a b) : Aft c P a b := by
  have u := kp_up k
  obtain ⟨h, t, rfl, _⟩ := id k
  exact ⟨fun q o _ e => u q o e, fun h => h, rfl, fun ps t => ⟨#[], by simpa using t.up u⟩⟩
theorem tab_ne {c P : Addr} {ps : Array Value} {h : Heap} (t : Tab c P ps h) {b : Addr} {o : Obj} (e : h.get? b = some o) (hd : ∀ vs, o.data ≠ .fields vs) : b ≠ P := by
  rintro rfl
  rw [t.tab.2] at e; cases e; exact hd _ rfl
theorem ns_tab {c P : Addr} {ps : Array Value} {h h' : Heap} {a : Addr} {m : Str → Option Value} (t : Tab c P ps h) (hk : ∀ b o, b ≠ P → h.get? b = some o → h'.get? b = some o) (x : h.Ns a m) : h'.Ns a m := by
  refine x.at' fun o e => hk a o ?_ e
  obtain ⟨o', es, ep, ho, hd, _⟩ := x
  exact tab_ne t ho (by rw [hd]; intro _ e; cases e)
theorem rp_tab {K : Addr → Prop} {c P : Addr} {ps : Array Value} {h h' : Heap} {p : PV} {v : Value} (t : Tab c P ps h) (hk : ∀ b o, b ≠ P → h.get? b = some o → h'.get? b = some o) (x : Rp K p v h) : Rp K p v h' :=
  x.on fun b its hb hp => ⟨hb, let ⟨n, e⟩ := hp; ⟨n, hk b _ (tab_ne t e (by intro _ e; cases e)) e⟩⟩
/-- a frame's state, when the code's table has grown -/
theorem LS.aft {c P : Addr} {ps : Array Value} {s' : Shared} (h : LS env base (fun b => b = P) (SmL base) (fun _ => False) ρ s) (t : Tab c P ps s.heap) (x : Aft c P s s') : LS env base (fun b => b = P) (SmL base) (fun _ => False) ρ s' := by
  have side : ∀ {p : PV} {v : Value}, Rp (Kn (fun _ => False) s) p v s.heap → Rp (Kn (fun _ => False) s') p v s'.heap := fun r => (rp_tab t x.keep r).kn fun _ h => h.2
  refine ⟨fun _ h => h.elim, ⟨x.bare h.same.1, x.os.trans h.same.2⟩, fun b o e hb => x.keep b o hb (h.keep b o e hb), ?_, ?_⟩
  · obtain ⟨m, hn, hm⟩ := h.ns
    exact ⟨m, ns_tab t x.keep hn, fun y hy pv e => let ⟨v, h1, h2⟩ := hm y hy pv e; ⟨v, h1, side h2⟩⟩
  · intro y c' e
    obtain ⟨ov, ⟨o, ho, hd⟩, hv⟩ := h.cells y c' e
    exact ⟨ov, ⟨o, x.keep _ o (tab_ne t ho (by rw [hd]; intro _ e; cases e)) ho, hd⟩, fun pv e => let ⟨v, h1, h2⟩ := hv pv e; ⟨v, h1, side h2⟩⟩
/-- the world of covariance -/
structure Wc (mg mb : Str → Option Value) (c P : Addr) (h : Heap) : Prop where
  fn : ∃ a o pm doc, mg (Str.ofString "covariance") = some (.ref a) ∧ h.get? a = some o ∧ o.data = .func (Calls.docDef (recOf (stAt 6)).name (recOf (stAt 6)).params (recOf (stAt 6)).body (recOf (stAt 6)).scope pm (.ref c) doc)
  rc : h.CodeRec (.ref c) (recOf (stAt 6)).name
  tab : ∃ ps, Tab c P ps h
  pst : P ≠ cStatics
  fs : mg (Str.ofString "fsum") = some (.builtin "math.fsum")
  sp : mg (Str.ofString "sumprod") = some (.builtin "math.sumprod")
  bm : ∃ bm ob, BMod h mainGlobals mg bm ob
  nl : h.NoLimit
  g : h.Ns mainGlobals mg
  b : h.Ns builtinsNs mb
  len : mg (Str.ofString "len") = none ∧ mb (Str.ofString "len") = some (.builtin "len")
theorem Wc.grow {c P : Addr} {h h' : Heap} (x : Wc mg mb c P h) (hk : ∀ b o, b ≠ P → h.get? b = some o → h'.get? b = some o) (ht : ∃ ps, Tab c P ps h') : Wc mg mb c P h' := by
  obtain ⟨ps, t⟩ := x.tab
  refine ⟨?_, ?_, ht, x.pst, x.fs, x.sp, ?_, ?_, ns_tab t hk x.g, ns_tab t hk x.b, x.len⟩
  · obtain ⟨a, o, pm, doc, h1, h2, h3⟩ := x.fn
    exact ⟨a, o, pm, doc, h1, hk _ _ (tab_ne t h2 (by rw [h3]; intro _ e; cases e)) h2, h3⟩
  · obtain ⟨c', o, us, tt, e, ho, r⟩ := x.rc
    cases e
    obtain ⟨_, _, _, _, _, _, _, _, _, _, _, _, _, _, _, _, _, _, _, _, hne⟩ := t.code
    exact ⟨c, o, us, tt, rfl, hk _ _ hne ho, r⟩
  · obtain ⟨bm, ob, hb⟩ := x.bm
    exact ⟨bm, ob, hb.extBut t.tab hk⟩
  · obtain ⟨mc, hns, hnn⟩ := x.nl
    exact ⟨mc, ns_tab t hk hns, hnn⟩
theorem Wc.aft {c P : Addr} {s s' : Shared} (x : Wc mg mb c P s.heap) (y : Aft c P s s') : Wc mg mb c P s'.heap := by
  obtain ⟨ps, t⟩ := x.tab
  obtain ⟨more, t'⟩ := y.tab ps t
  exact x.grow y.keep ⟨_, t'⟩
theorem Wc.up {c P : Addr} {h h' : Heap} (x : Wc mg mb c P h) (u : Up h h') : Wc mg mb c P h' := x.grow (fun b o _ e => u b o e) (let ⟨ps, t⟩ := x.tab; ⟨ps, t.up u⟩)
end
end Mine
set_option maxRecDepth 100000
namespace Mine
open PySem.Builtin.Math (tlFma tlToFloat)
section
variable {prog : Program} {w : World} {A : Around} {env : Env} {s base : Shared} {Y : Addr → Prop} {mg mb : Str → Option Value} {ρ : Str → Option PV}
theorem ev_divFI {l r : Expr} {pos : Pos} {a : UInt64} {n : Int} (hh : A.handled = none) (hl : Ev prog w A env s Y l (fun K => Rp K (.flt a))) (hr : Ev prog w A env s Y r (fun K => Rp K (.int n))) (h0 : n ≠ 0) (hn : n.natAbs < 2 ^ 64) :
    Ev prog w A env s Y (.BinOp l .Div r pos) (fun K => Rp K (.flt (Float64.div a (Float64.ofInt n)))) :=
  ev_bin hl hr (fun K va vb s' E Q _ ha hb hQ => by
    obtain ⟨t, rfl⟩ := ha.inv_flt
    obtain ⟨u, rfl⟩ := hb.inv_int
    exact Flt.truediv_fi hh (fun o => absurd o (not_over hn)) (fun o => absurd o h0) fun _ _ => hQ _ _ (kp_tok _ _) (rp_flt ..)) (Rp.ok _)
theorem ev_subIF {l r : Expr} {pos : Pos} {a : UInt64} {n : Int} (hl : Ev prog w A env s Y l (fun K => Rp K (.int n))) (hr : Ev prog w A env s Y r (fun K => Rp K (.flt a))) (hn : n.natAbs < 2 ^ 64) :
    Ev prog w A env s Y (.BinOp l .Sub r pos) (fun K => Rp K (.flt (Float64.sub (Float64.ofInt n) a))) :=
  ev_bin hl hr (fun K va vb s' E Q _ ha hb hQ => by
    obtain ⟨t, rfl⟩ := ha.inv_int
    obtain ⟨u, rfl⟩ := hb.inv_flt
    exact AutoFloatOps.sub_if_1 (Flt.fin_of_fits (not_over hn)) (hQ _ _ (kp_tok _ _) (rp_flt ..))) (Rp.ok _)
theorem len_cn (l : List PV) (hz : l.length ≤ 1000) : Cn prog w A s (.builtin "len") [.list l] (fun K => Rp K (.int l.length)) := by
  intro K vs s' E Q k hr hQ
  obtain ⟨v, vs', rfl, hv, hr'⟩ := hr.inv
  cases hr'.inv_nil
  obtain ⟨a, its, rfl, _, hp, hL⟩ := hv.inv_list
  have e : its.toArray.size = l.length := by rw [List.size_toArray, hL.length]
  refine Calls.call_len_list hp.isList (by rw [e]; omega) ?_
  rw [e]
  exact hQ _ _ (kp_tok _ _) (rp_int ..)
theorem ne_tst {l r : Expr} {pos : Pos} {a b : Int} (hl : Ev prog w A env s Y l (fun K => Rp K (.int a))) (hr : Ev prog w A env s Y r (fun K => Rp K (.int b))) (hm : behindInMarks .NotEq r = false) : Tst prog w A env s (.Compare l [.NotEq] [r] pos) (a != b) :=
  tst_cmp hl hr (fun K va vb s' E Q _ ha hb hQ => by
    obtain ⟨t, rfl⟩ := ha.inv_int
    obtain ⟨u, rfl⟩ := hb.inv_int
    exact PySem.P.ne_int (hQ s' (kp_refl _))) hm
/-- a local name that holds a given value -/
theorem ev_val {x : Str} {pos : Pos} {v : Value} {ax : Addr} {items : Array Value} {m : Str → Option Value} (hk : env.scope.kind = .function) (hx : env.kindOf x = some .local) (hn : s.heap.Ns env.locals m) (e : m x = some (.ref ax)) (hl : s.heap.IsList ax items) (hd : (x == ("__debug__" : Str)) = false) :
    Ev prog w A env s Y (.Name x pos) (fun _ v h => v = .ref ax ∧ h.IsList ax items) := by
  intro s' E Q k hQ
  exact wpAny_Name (wpAny_loadName_local hk hx (hn.at' fun o e => kp_up k _ _ e) e (hQ _ _ (kp_refl _) ⟨rfl, hl.at fun o e => kp_up k _ _ e⟩)) hd
theorem GenF.aft {c P : Addr} {ps : Array Value} {s₅ : Shared} {a C I ax ca : Addr} {n : Nat} {F : Nat → Value → Prop} (x : GenF prog w A c P ps s s₅ a C I ax ca n F) (t : Tab c P ps s.heap) : Aft c P s s₅ :=
  ⟨x.keep, x.bare, x.os, fun ps' t' => by
    have e : ps' = ps := by
      have := t.tab.2.symm.trans t'.tab.2
      injection this with this
      injection this with _ _ h3
      injection h3 with h3
      exact h3.symm
    rw [e]; exact x.tab⟩
/-- the element of covariance's generators -/
theorem gen_quiet {x bar : Str} {p1 p2 pos : Pos} {scope : Scope} {cl : List (Str × Addr)} {ca ax I C : Addr} {code : Value} {bi : Addr} {K : Addr → Prop} {xs : List Int} {its : List Value} {href : Heap} {b : UInt64} {t : Tok}
    (hL : RpL K (xs.map PV.int) its s.heap) (hs : ∀ x ∈ xs, x.natAbs < 2 ^ 64) (hkf : scope.kind = .function) (hx : scope.names.lookup x = some .local) (hbar : (genEnv scope cl C code bi env).kindOf bar = some .free) (hca : cl.lookup bar = some ca)
    (hcell : href.IsCell ca (some (.float b t))) (hI : ca ≠ I) (d1 : (x == ("__debug__" : Str)) = false) (d2 : (x == ("__classdict__" : Str)) = false) (d3 : (bar == ("__debug__" : Str)) = false) (d4 : (bar == ("__classdict__" : Str)) = false) :
    QuietGen prog w (genEnv scope cl C code bi env) x [] (.BinOp (.Name x p1) .Sub (.Name bar p2) pos) [I, ax, ca, cStatics] [I] (fun i v => its.toArray[i]? = some v) (fun _ => true) (FF fun i => Float64.sub (Float64.ofInt (xs.getD i 0)) b) href := by
  refine ⟨fun A' E' i v s₂ m₂ hh hP hn hm hk => ?_, fun A' E' i v s₂ m₂ hh hP _ hn hm hk => ?_⟩
  · exact wpAny_tests_nil ⟨rfl, s₂.heap, s₂.toks, rfl, fun _ _ e => e⟩
  · obtain ⟨t', rfl⟩ := rpl_ints hL i v (by simpa using hP)
    have hmem : (xs.getD i 0).natAbs < 2 ^ 64 := by
      rw [List.getD_eq_getElem?_getD]
      cases h : xs[i]? with
      | none => decide
      | some y => exact hs y (List.mem_of_getElem? h)
    obtain ⟨o, ho, hd⟩ := hcell
    have hc2 : s₂.heap.IsCell ca (some (.float b t)) := ⟨o, hk ca (by simp) (by simpa using hI) o ho, hd⟩
    have v1 : VarIs (genEnv scope cl C code bi env) s₂ (fun _ => True) x (.int (xs.getD i 0)) := ⟨_, rp_int .., .inl ⟨hx, m₂, hn, hm⟩⟩
    have v2 : VarIs (genEnv scope cl C code bi env) s₂ (fun _ => True) bar (.flt b) := ⟨_, rp_flt .., .inr ⟨.inr hbar, ca, hca, hc2⟩⟩
    exact ev_subIF (prog := prog) (w := w) (A := A') (ev_var (by exact hkf) v1 d1 d2) (ev_var (by exact hkf) v2 d3 d4) hmem s₂ E' _ (kp_refl _) fun v s₃ k₃ hv => by
      obtain ⟨t, rfl⟩ := hv.inv_flt
      exact ⟨⟨t, rfl⟩, k₃⟩
theorem prs_zip (xs ys : List Int) (hl : ys.length = xs.length) : prs (fun i => Float64.sub (Float64.ofInt (xs.getD i 0)) (barF xs)) (fun i => Float64.sub (Float64.ofInt (ys.getD i 0)) (barF ys)) xs.length 0 = (devF xs).zip (devF ys) := by
  unfold prs devF
  apply List.ext_getElem
  · simp [hl]
  · intro i h1 h2
    simp only [List.length_map, List.length_range] at h1
    have g1 : i < xs.length := by omega
    have g2 : i < ys.length := by omega
    simp [List.getD_eq_getElem?_getD, g1, g2]
end
end Mine
set_option maxRecDepth 100000
namespace Mine
section
variable {prog : Program} {w : World} {A : Around} {s : Shared} {mg mb : Str → Option Value}
abbrev sX : Str := Str.ofString "x"
abbrev sY : Str := Str.ofString "y"
abbrev sN : Str := Str.ofString "n"
def cvEnv (L a : Addr) (cd : Value) : Env := envOfC (recOf (stAt 6)).name (recOf (stAt 6)).scope L a cd
theorem cv_cells (L a : Addr) (cd : Value) : (cvEnv L a cd).cells = [(Str.ofString "ybar", L + 2), (Str.ofString "xbar", L + 1)] := by kernel_rfl
def q0 (xs ys : List Int) : Str → Option PV := set (set (fun _ => none) sX (.list (xs.map PV.int))) sY (.list (ys.map PV.int))
def q1 (xs ys : List Int) : Str → Option PV := set (q0 xs ys) sN (.int xs.length)
def q2 (xs ys : List Int) : Str → Option PV := set (q1 xs ys) (Str.ofString "xbar") (.flt (barF xs))
def q3 (xs ys : List Int) : Str → Option PV := set (q2 xs ys) (Str.ofString "ybar") (.flt (barF ys))
def q4 (xs ys : List Int) : Str → Option PV := set (q3 xs ys) (Str.ofString "sxy") (.flt (sxyF xs ys))
abbrev LF (env : Env) (base : Shared) (ρ : Str → Option PV) (s : Shared) : Prop := LS env base (fun _ => False) (SmL base) (fun _ => False) ρ s
abbrev LP (P : Addr) (env : Env) (base : Shared) (ρ : Str → Option PV) (s : Shared) : Prop := LS env base (fun b => b = P) (SmL base) (fun _ => False) ρ s
set_option maxHeartbeats 4000000 in
/-- the first five statements of covariance -/
theorem cv_head {env : Env} {L a : Addr} {cd : Value} (hE : env = cvEnv L a cd) (FA : FrameAt env s) {c P : Addr} (C : Wc mg mb c P s.heap) (hh : A.handled = none) {xs ys : List Int} (hl : ys.length = xs.length) (h2 : 2 ≤ xs.length) (hz : xs.length ≤ 1000)
    (hsx : ∀ x ∈ xs, x.natAbs < 2 ^ 64) (hsy : ∀ x ∈ ys, x.natAbs < 2 ^ 64) (okx : fsOk [] (xs.map Float64.ofInt) = true) (oky : fsOk [] (ys.map Float64.ofInt) = true) {s₁ : Shared} (h : LF env s (q0 xs ys) s₁) {E : Value → Shared → Prop} {Q : Flow → Shared → Prop}
    (hQ : ∀ s', LF env s (q3 xs ys) s' → wpAny (model prog w) A (execs ((recOf (stAt 6)).body.drop 5) env) Q E s') :
    wpAny (model prog w) A (execs (recOf (stAt 6)).body env) Q E s₁ := by
  have hkf : env.scope.kind = .function := FA.kind
  have Gs : ∀ {s' : Shared} {ρ : Str → Option PV}, LF env s ρ s' → Glb env s' mg mb := fun h => by
    have e1 : env.globals = mainGlobals := by rw [hE]; rfl
    have e2 : env.builtins = builtinsNs := by rw [hE]; rfl
    exact ⟨e1 ▸ C.g.keeps fun b o e => h.keep b o e fun x => x, e2 ▸ C.b.keeps fun b o e => h.keep b o e fun x => x⟩
  have kX : env.kindOf sX = some .local := by subst hE; kernel_rfl
  have kY : env.kindOf sY = some .local := by subst hE; kernel_rfl
  have kN : env.kindOf sN = some .local := by subst hE; kernel_rfl
  have eX : ∀ {s' : Shared} {ρ : Str → Option PV}, LF env s ρ s' → ρ sX = some (.list (xs.map PV.int)) → ∀ pos, Ev prog w A env s' (Kn (fun _ => False) s') (.Name sX pos) (fun K => Rp K (.list (xs.map PV.int))) := fun h e pos => ev_var hkf (h.var (.inl kX) e) (by decide +kernel) (by decide +kernel)
  have eY : ∀ {s' : Shared} {ρ : Str → Option PV}, LF env s ρ s' → ρ sY = some (.list (ys.map PV.int)) → ∀ pos, Ev prog w A env s' (Kn (fun _ => False) s') (.Name sY pos) (fun K => Rp K (.list (ys.map PV.int))) := fun h e pos => ev_var hkf (h.var (.inl kY) e) (by decide +kernel) (by decide +kernel)
  have eN : ∀ {s' : Shared} {ρ : Str → Option PV}, LF env s ρ s' → ρ sN = some (.int xs.length) → ∀ pos, Ev prog w A env s' (Kn (fun _ => False) s') (.Name sN pos) (fun K => Rp K (.int xs.length)) := fun h e pos => ev_var hkf (h.var (.inl kN) e) (by decide +kernel) (by decide +kernel)
  have lx : (xs.map PV.int).length = xs.length := List.length_map ..
  have ly : (ys.map PV.int).length = xs.length := by rw [List.length_map, hl]
  have cx : ∀ {s' : Shared}, Cn prog w A s' (.builtin "len") [.list (xs.map PV.int)] (fun K => Rp K (.int xs.length)) := by
    intro s'; have := len_cn (prog := prog) (w := w) (A := A) (s := s') (xs.map PV.int) (by omega); rw [lx] at this; exact this
  have cy : ∀ {s' : Shared}, Cn prog w A s' (.builtin "len") [.list (ys.map PV.int)] (fun K => Rp K (.int xs.length)) := by
    intro s'; have := len_cn (prog := prog) (w := w) (A := A) (s := s') (ys.map PV.int) (by omega); rw [ly] at this; exact this
  have kL : env.kindOf (Str.ofString "len") = some .globalImplicit := by subst hE; kernel_rfl
  have kF : env.kindOf (Str.ofString "fsum") = some .globalImplicit := by subst hE; kernel_rfl
  show wpAny _ _ (execs (_ :: _) _) _ _ _
  with_reducible refine ex_assign FA h (.inl kN) (ev_call_b hkf kL (Gs h) C.len.1 C.len.2 (evl_cons (eX h (by kernel_rfl) _) evl_nil) cx (Rp.ok _) (by decide +kernel) (sh1 (se_name ..)).1 (sh1 (se_name ..)).2) (by subst hE; kernel_rfl) fun s₂ h₂ => ?_
  have t1 : ((xs.length : Int) != (xs.length : Int)) = false := by simp
  with_reducible refine ex_if (c := false) (t1 ▸ ne_tst (ev_call_b hkf kL (Gs h₂) C.len.1 C.len.2 (evl_cons (eY h₂ (by kernel_rfl) _) evl_nil) cy (Rp.ok _) (by decide +kernel) (sh1 (se_name ..)).1 (sh1 (se_name ..)).2) (eN h₂ (by kernel_rfl) _) (by kernel_rfl)) fun s₃ k₃ => ?_
  have h₃ := h₂.keeps k₃
  simp only [Bool.false_eq_true, if_false]
  refine wpAny_execs_nil ?_
  have t2 : decide ((xs.length : Int) < 2) = false := by simp; omega
  with_reducible refine ex_if (c := false) (t2 ▸ lt_tst (eN h₃ (by kernel_rfl) _) ev_int) fun s₄ k₄ => ?_
  have h₄ := h₃.keeps k₄
  simp only [Bool.false_eq_true, if_false]
  refine wpAny_execs_nil ?_
  have hn0 : (xs.length : Int) ≠ 0 := by omega
  have hnn : (xs.length : Int).natAbs < 2 ^ 64 := by omega
  have hzy : ys.length ≤ 1000 := by omega
  have by1 : barF ys = Float64.div (fsumF (ys.map Float64.ofInt)) (Float64.ofInt xs.length) := by unfold barF; rw [hl]
  with_reducible refine ex_assign (pv := .flt (barF xs)) FA h₄ (.inr ⟨by subst hE; kernel_rfl, by subst hE; kernel_rfl⟩) ?_ (by subst hE; kernel_rfl) fun s₅ h₅ => ?_
  · unfold barF
    with_reducible exact ev_divFI hh (ev_call_gb hkf kF (Gs h₄) C.fs (evl_cons (eX h₄ (by kernel_rfl) _) evl_nil) (fsum_cn hh xs hsx hz okx) (Rp.ok _) (by decide +kernel) (sh1 (se_name ..)).1 (sh1 (se_name ..)).2) (eN h₄ (by kernel_rfl) _) hn0 hnn
  with_reducible refine ex_assign (pv := .flt (barF ys)) FA h₅ (.inr ⟨by subst hE; kernel_rfl, by subst hE; kernel_rfl⟩) ?_ (by subst hE; kernel_rfl) fun s₆ h₆ => ?_
  · rw [by1]
    with_reducible exact ev_divFI hh (ev_call_gb hkf kF (Gs h₅) C.fs (evl_cons (eY h₅ (by kernel_rfl) _) evl_nil) (fsum_cn hh ys hsy hzy oky) (Rp.ok _) (by decide +kernel) (sh1 (se_name ..)).1 (sh1 (se_name ..)).2) (eN h₅ (by kernel_rfl) _) hn0 hnn
  exact hQ s₆ h₆
end
end Mine
set_option maxRecDepth 100000
namespace Mine
section
variable {prog : Program} {w : World} {A : Around} {s : Shared} {mg mb : Str → Option Value}
theorem call_gb_any {env : Env} {f : Str} {p pos : Pos} {es : List Expr} {id : String} {E : Value → Shared → Prop} {Q : Value → Shared → Prop} (hk : env.scope.kind = .function) (hx : env.kindOf f = some .globalImplicit) (G : Glb env s mg mb) (h1 : mg f = some (.builtin id))
    (ha : wpAny (model prog w) A (spliced (backTo pos (starEach es env))) (fun vs s₁ => wpAny (model prog w) A (call (.builtin id) vs) Q E s₁) E s) (hd : (f == ("__debug__" : Str)) = false)
    (hsh : ∃ x rest, backTo pos (starEach es env) = (false, x) :: rest) (hpl : (backTo pos (starEach es env)).any (·.1) = false) :
    wpAny (model prog w) A (eval (.Call (.Name f p) es [] pos) env) Q E s := by
  refine wpAny_Call_Name_kw (name_g hk hx G h1 ?_ hd)
  refine Calls.callWith_builtin hpl ?_
  obtain ⟨x, rest, e⟩ := hsh
  rw [e] at ha ⊢
  exact Calls.evalArgs_plain ha
theorem call_gd_any {env : Env} {f : Str} {p pos : Pos} {es : List Expr} {a : Addr} {o : Obj} {fd : FuncData} {E : Value → Shared → Prop} {Q : Value → Shared → Prop} (hk : env.scope.kind = .function) (hx : env.kindOf f = some .globalImplicit) (G : Glb env s mg mb) (h1 : mg f = some (.ref a))
    (ha : wpAny (model prog w) A (spliced (backTo pos (starEach es env))) (fun vs s₁ => (s₁.heap.get? a = some o ∧ o.data = .func fd) ∧ wpAny (model prog w) A (call (.ref a) vs) Q E s₁) E s) (hd : (f == ("__debug__" : Str)) = false)
    (hsh : ∃ x rest, backTo pos (starEach es env) = (false, x) :: rest) :
    wpAny (model prog w) A (eval (.Call (.Name f p) es [] pos) env) Q E s := by
  refine wpAny_Call_Name_kw (name_g hk hx G h1 ?_ hd)
  refine Calls.callWith_function (o := o) (fd := fd) ?_
  obtain ⟨x, rest, e⟩ := hsh
  rw [e] at ha ⊢
  exact Calls.evalArgs_plain ha
theorem LF.toP {P : Addr} {env : Env} {base : Shared} {ρ : Str → Option PV} {s : Shared} (h : LF env base ρ s) : LP P env base ρ s :=
  ⟨h.nd, h.same, fun b o e _ => h.keep b o e fun x => x, h.ns, h.cells⟩
theorem tab_off {env : Env} {base : Shared} {Xs : Addr → Prop} {Sm : Array GenState → Drawn → OsState → Prop} {N : Addr → Prop} {ρ : Str → Option PV} {s₄ s₅ : Shared} {c P : Addr} {ps : Array Value} (h4 : LS env base Xs Sm N ρ s₄) (T4 : Tab c P ps s₄.heap) (hoff : Off env s₄ s₅) : Tab c P ps s₅.heap := by
  have stays : ∀ b o vs, s₄.heap.get? b = some o → o.data = .fields vs → s₅.heap.get? b = some o := fun b o vs e hd => by
    refine hoff b o ?_ ?_ e
    · obtain ⟨m, ⟨o', es, ep, ho, hd', _⟩, _⟩ := h4.ns
      rintro rfl
      rw [e] at ho; cases ho; rw [hd] at hd'; cases hd'
    · rintro x c' ec rfl
      obtain ⟨ov, ⟨o', ho, hd'⟩, _⟩ := h4.cells x _ ec
      rw [e] at ho; cases ho; rw [hd] at hd'; cases hd'
  obtain ⟨o, vs, file, tf, flags, tg, inF, text, tt, op, q1, q2, q3, q4, q5, q6, q7, q8, q9, q10⟩ := T4.code
  obtain ⟨⟨o', vs', q1', q2', q3', q4'⟩, q5'⟩ := T4.tab
  exact ⟨⟨o, vs, file, tf, flags, tg, inF, text, tt, op, stays _ _ _ q1 q2, q2, q3, q4, q5, q6, q7, stays _ _ _ q8 q9, q9, q10⟩, ⟨o', vs', stays _ _ _ q1' q3', q2', q3', q4'⟩, stays _ _ _ q5' rfl⟩
set_option maxHeartbeats 4000000 in
/-- the statement of covariance that sums the products, and its return -/
theorem cv_tail {env : Env} {L a : Addr} {c P : Addr} (hE : env = cvEnv L a (.ref c)) (FA : FrameAt env s) (C : Wc mg mb c P s.heap) (hh : A.handled = none) (hroom : A.depth < recursionLimit) {xs ys : List Int} (hl : ys.length = xs.length) (h2 : 2 ≤ xs.length) (hz : xs.length ≤ 1000)
    (hsx : ∀ x ∈ xs, x.natAbs < 2 ^ 64) (hsy : ∀ x ∈ ys, x.natAbs < 2 ^ 64) (okp : spOk z3 ((devF xs).zip (devF ys)) = true) {s₁ : Shared} (h : LF env s (q3 xs ys) s₁) {E : Value → Shared → Prop} {Q : Flow → Shared → Prop}
    (hQ : ∀ t s', Aft c P s s' → Q (.ret (.float (covF xs ys) t)) s') :
    wpAny (model prog w) A (execs ((recOf (stAt 6)).body.drop 5) env) Q E s₁ := by
  have hkf : env.scope.kind = .function := FA.kind
  have up1 : Up s.heap s₁.heap := fun b o e => h.keep b o e fun x => x
  have C1 := C.up up1
  obtain ⟨ps, T⟩ := C.tab
  have T1 := T.up up1
  have eg : env.globals = mainGlobals := by rw [hE]; rfl
  have eb : env.builtins = builtinsNs := by rw [hE]; rfl
  have hcode : env.code = .ref c := by rw [hE]; rfl
  have G1 : Glb env s₁ mg mb := ⟨eg ▸ C1.g, eb ▸ C1.b⟩
  obtain ⟨bm, ob, M1⟩ := C1.bm
  have M1' : BMod s₁.heap env.globals mg bm ob := eg ▸ M1
  have kX : env.kindOf sX = some .local := by subst hE; kernel_rfl
  have kY : env.kindOf sY = some .local := by subst hE; kernel_rfl
  have kN : env.kindOf sN = some .local := by subst hE; kernel_rfl
  have kS : env.kindOf (Str.ofString "sxy") = some .local := by subst hE; kernel_rfl
  have kP : env.kindOf (Str.ofString "sumprod") = some .globalImplicit := by subst hE; kernel_rfl
  have kXb : env.kindOf (Str.ofString "xbar") = some .cell := by subst hE; kernel_rfl
  have kYb : env.kindOf (Str.ofString "ybar") = some .cell := by subst hE; kernel_rfl
  have cXb : env.cells.lookup (Str.ofString "xbar") = some (L + 1) := by subst hE; kernel_rfl
  have cYb : env.cells.lookup (Str.ofString "ybar") = some (L + 2) := by subst hE; kernel_rfl
  -- what the names hold
  obtain ⟨m, hn, hm⟩ := h.ns
  obtain ⟨vx, mx, rx⟩ := hm sX kX (.list (xs.map PV.int)) (by kernel_rfl)
  obtain ⟨vy, my, ry⟩ := hm sY kY (.list (ys.map PV.int)) (by kernel_rfl)
  obtain ⟨ax, ix, rfl, _, px, Lx⟩ := rx.inv_list
  obtain ⟨ay, iy, rfl, _, py, Ly⟩ := ry.inv_list
  obtain ⟨ov, hcx, hov⟩ := h.cells _ _ cXb
  obtain ⟨vb, rfl, rb⟩ := hov (.flt (barF xs)) (by kernel_rfl)
  obtain ⟨tb, rfl⟩ := rb.inv_flt
  obtain ⟨ov2, hcy, hov2⟩ := h.cells _ _ cYb
  obtain ⟨vb2, rfl, rb2⟩ := hov2 (.flt (barF ys)) (by kernel_rfl)
  obtain ⟨tb2, rfl⟩ := rb2.inv_flt
  have lx : ix.toArray.size = xs.length := by rw [List.size_toArray, Lx.length, List.length_map]
  have ly : iy.toArray.size = xs.length := by rw [List.size_toArray, Ly.length, List.length_map, hl]
  obtain ⟨ocx, hocx, hdcx⟩ := id hcx
  obtain ⟨ocy, hocy, hdcy⟩ := id hcy
  have cxP : L + 1 ≠ P := tab_ne T1 hocx (by rw [hdcx]; intro _ e; cases e)
  have cyP : L + 2 ≠ P := tab_ne T1 hocy (by rw [hdcy]; intro _ e; cases e)
  obtain ⟨nx, ex⟩ := id px
  obtain ⟨ny, ey⟩ := id py
  have axP : ax ≠ P := tab_ne T1 ex (by intro _ e; cases e)
  have ayP : ay ≠ P := tab_ne T1 ey (by intro _ e; cases e)
  show wpAny _ _ (execs (_ :: _) _) _ _ _
  refine wpAny_execs_cons (wpAny_Assign_Name ?_ (by subst hE; kernel_rfl))
  refine call_gb_any hkf kP G1 C.sp ?_ (by decide +kernel) ⟨_, _, by rw [se_gen]; rfl⟩ (by rw [se_gen, se_gen]; rfl)
  refine wpAny_items_cons (gen_make (ca := L + 1) (ax := ax) (items := ix.toArray) (Y := fun _ => True) (cl := [(Str.ofString "xbar", L + 1)]) hcode T1 C.pst C1.nl M1' hh (by kernel_rfl) (by subst hE; kernel_rfl) (by decide +kernel) (by kernel_rfl) (by kernel_rfl) (by kernel_rfl) hroom (ev_val (v := .ref ax) hkf kX hn mx px.isList (by decide +kernel)) px.isList ⟨_, hocx⟩ cxP (fun C₁ I₁ code bi href nI₁ keep => gen_quiet Lx hsx (by kernel_rfl) (by kernel_rfl) (by kernel_rfl) (by kernel_rfl) ⟨ocx, keep _ _ cxP hocx, hdcx⟩ (by rintro rfl; rw [hocx] at nI₁; cases nI₁) (by decide +kernel) (by decide +kernel) (by decide +kernel) (by decide +kernel)) fun a₁ C₁ I₁ s₂ g₁ => ?_) (se_gen ..)
  obtain ⟨more, T2⟩ := g₁.tab
  have A2 := g₁.aft T1
  have C2 := C1.aft A2
  obtain ⟨bm2, ob2, M2⟩ := C2.bm
  have M2' : BMod s₂.heap env.globals mg bm2 ob2 := eg ▸ M2
  have hn2 := ns_tab T1 A2.keep hn
  have py2 : s₂.heap.PlainList ay iy.toArray := ⟨ny, A2.keep _ _ ayP ey⟩
  have Ly2 : RpL (Kn (fun _ => False) s₁) (ys.map PV.int) iy s₂.heap := Ly.on fun b its hb hp => ⟨hb, let ⟨n, e⟩ := hp; ⟨n, A2.keep b _ (tab_ne T1 e (by intro _ e; cases e)) e⟩⟩
  have hocy2 := A2.keep _ _ cyP hocy
  refine wpAny_items_cons (gen_make (ca := L + 2) (ax := ay) (items := iy.toArray) (Y := fun _ => True) (cl := [(Str.ofString "ybar", L + 2)]) hcode T2 C.pst C2.nl M2' hh (by kernel_rfl) (by subst hE; kernel_rfl) (by decide +kernel) (by kernel_rfl) (by kernel_rfl) (by kernel_rfl) hroom (ev_val (v := .ref ay) hkf kY hn2 my py2.isList (by decide +kernel)) py2.isList ⟨_, hocy2⟩ cyP (fun C₂ I₂ code bi href nI₂ keep => gen_quiet Ly2 hsy (by kernel_rfl) (by kernel_rfl) (by kernel_rfl) (by kernel_rfl) ⟨ocy, keep _ _ cyP hocy2, hdcy⟩ (by rintro rfl; rw [hocy2] at nI₂; cases nI₂) (by decide +kernel) (by decide +kernel) (by decide +kernel) (by decide +kernel)) fun a₂ C₂ I₂ s₃ g₂ => ?_) (se_gen ..)
  refine wpAny_items_nil ?_
  have A3 := g₂.aft T2
  obtain ⟨more3, T3⟩ := g₂.tab
  obtain ⟨mc, hst1, _⟩ := C1.nl
  obtain ⟨ost, est, ept, host, _⟩ := hst1
  have hstP : cStatics ≠ P := Ne.symm C.pst
  obtain ⟨oa1, ha1⟩ := g₁.ea
  obtain ⟨oC1, hC1⟩ := g₁.eC
  obtain ⟨oI1, hI1⟩ := g₁.eI
  have P1 := T1.tab.2
  have dif : ∀ {h : Heap} {b d : Addr} {o : Obj}, h.get? b = some o → h.get? d = none → b ≠ d := fun e1 e2 e => by rw [e, e2] at e1; cases e1
  have a1P : a₁ ≠ P := Ne.symm (dif P1 g₁.na)
  have C1P : C₁ ≠ P := Ne.symm (dif P1 g₁.nC)
  have I1P : I₁ ≠ P := Ne.symm (dif P1 g₁.nI)
  have P2 := T2.tab.2
  have I2P : I₂ ≠ P := Ne.symm (dif P2 g₂.nI)
  have C2P : C₂ ≠ P := Ne.symm (dif P2 g₂.nC)
  have m2 : ∀ {b : Addr} {o : Obj}, s₁.heap.get? b = some o → b ≠ P → ∃ o', s₂.heap.get? b = some o' := fun e hb => ⟨_, A2.keep _ _ hb e⟩
  obtain ⟨o1, e1⟩ := m2 ex axP
  obtain ⟨o2, e2⟩ := m2 hocx cxP
  obtain ⟨o3, e3⟩ := m2 host hstP
  have D : Apart a₁ C₁ I₁ ax (L + 1) a₂ C₂ I₂ ay (L + 2) s₁.gens.size s₂.gens.size := by
    refine ⟨g₁.Ca, g₁.Ia, g₂.Ca, g₂.Ia, ?_, ?_, ?_, ?_, Ne.symm (dif host g₁.nI), Ne.symm (dif e3 g₂.nI), by rw [g₁.gsz]; exact Nat.ne_of_lt (Nat.lt_succ_self _)⟩
    · intro b hb
      simp only [List.mem_cons, List.not_mem_nil, or_false] at hb
      rcases hb with rfl | rfl | rfl | rfl | rfl | rfl
      · exact ⟨dif ha1 g₂.nC, dif ha1 g₂.nI⟩
      · exact ⟨dif hC1 g₂.nC, dif hC1 g₂.nI⟩
      · exact ⟨dif hI1 g₂.nC, dif hI1 g₂.nI⟩
      · exact ⟨dif e1 g₂.nC, dif e1 g₂.nI⟩
      · exact ⟨dif e2 g₂.nC, dif e2 g₂.nI⟩
      · exact ⟨dif e3 g₂.nC, dif e3 g₂.nI⟩
    · intro b hb
      simp only [List.mem_cons, List.not_mem_nil, or_false] at hb
      rcases hb with rfl | rfl | rfl | rfl | rfl | rfl
      · exact ⟨Ne.symm (dif hC1 g₂.na), Ne.symm (dif hI1 g₂.na)⟩
      · exact ⟨Ne.symm (dif hC1 g₂.nC), Ne.symm (dif hI1 g₂.nC)⟩
      · exact ⟨Ne.symm (dif hC1 g₂.nI), Ne.symm (dif hI1 g₂.nI)⟩
      · exact ⟨dif ey g₁.nC, dif ey g₁.nI⟩
      · exact ⟨dif hocy g₁.nC, dif hocy g₁.nI⟩
      · exact ⟨dif host g₁.nC, dif host g₁.nI⟩
    · intro b hb
      simp only [List.mem_cons, List.not_mem_nil, or_false] at hb
      rcases hb with rfl | rfl | rfl | rfl
      · exact ⟨Nat.ne_of_lt g₁.Ia, Ne.symm g₁.CI⟩
      · exact ⟨dif ex g₁.na, dif ex g₁.nC⟩
      · exact ⟨dif hocx g₁.na, dif hocx g₁.nC⟩
      · exact ⟨dif host g₁.na, dif host g₁.nC⟩
    · intro b hb
      simp only [List.mem_cons, List.not_mem_nil, or_false] at hb
      rcases hb with rfl | rfl | rfl | rfl
      · exact ⟨Nat.ne_of_lt g₂.Ia, Ne.symm g₂.CI⟩
      · exact ⟨dif (A2.keep _ _ ayP ey) g₂.na, dif (A2.keep _ _ ayP ey) g₂.nC⟩
      · exact ⟨dif hocy2 g₂.na, dif hocy2 g₂.nC⟩
      · exact ⟨dif e3 g₂.na, dif e3 g₂.nC⟩
  have at1 := g₁.at0
  have at2 := g₂.at0
  rw [lx] at at1
  rw [ly] at at2
  have at1' := GenAt.move (s' := s₃) at1 (by simp) (fun b hb o e => g₂.keep b o (by
    simp only [List.mem_cons, List.not_mem_nil, or_false] at hb
    rcases hb with rfl | rfl | rfl | rfl | rfl | rfl
    · exact a1P
    · exact C1P
    · exact I1P
    · exact axP
    · exact cxP
    · exact hstP) e) (g₂.gold _ (by rw [g₁.gsz]; exact Nat.lt_succ_self _))
  have hJ : JJ prog w A a₁ C₁ I₁ ax (L + 1) a₂ C₂ I₂ ay (L + 2) s₁.gens.size s₂.gens.size xs.length (fun i => Float64.sub (Float64.ofInt (xs.getD i 0)) (barF xs)) (fun i => Float64.sub (Float64.ofInt (ys.getD i 0)) (barF ys)) 0 0 s₃ := ⟨at1'.1, at2.1, fun _ => at1', fun _ => at2⟩
  have hpz := prs_zip xs ys hl
  refine sp_call (by omega) (two hh hroom D) hJ (fun s Q E j hq => wpAny_pyIter_gen j.1 hq) (fun s Q E j hq => wpAny_pyIter_gen j.2.1 hq) (by rw [hpz]; exact okp) fun s₄ u r₄ => ?_
  rw [hpz]
  have wrN : ∀ {b : Addr} {o : Obj}, s₁.heap.get? b = some o → b ≠ P → b ∉ [C₁, I₁, C₂, I₂] := fun e hb hm => by
    obtain ⟨o', e'⟩ := m2 e hb
    simp only [List.mem_cons, List.not_mem_nil, or_false] at hm
    rcases hm with rfl | rfl | rfl | rfl
    · exact dif e g₁.nC rfl
    · exact dif e g₁.nI rfl
    · exact dif e' g₂.nC rfl
    · exact dif e' g₂.nI rfl
  have A4 : Aft c P s₁ s₄ := ⟨fun b o hb e => r₄.heap b o (wrN e hb) (A3.keep _ _ hb (A2.keep _ _ hb e)), fun hb => r₄.gens (A3.bare (A2.bare hb)), r₄.os.trans (A3.os.trans A2.os), fun ps' t' => by
    obtain ⟨m1, t1⟩ := A2.tab ps' t'
    obtain ⟨m2, t2⟩ := A3.tab _ t1
    refine ⟨m1 ++ m2, ?_⟩
    rw [← Array.append_assoc]
    have hcP : c ≠ P := by
      obtain ⟨_, _, _, _, _, _, _, _, _, _, _, _, _, _, _, _, _, _, _, _, hne⟩ := t'.code
      exact hne
    obtain ⟨oc, _, hoc, _⟩ := t'.tab.1
    have hc4 : c ∉ [C₁, I₁, C₂, I₂] := wrN hoc hcP
    have hP4 : P ∉ [C₁, I₁, C₂, I₂] := by
      intro hm
      simp only [List.mem_cons, List.not_mem_nil, or_false] at hm
      rcases hm with e | e | e | e
      · exact C1P e.symm
      · exact I1P e.symm
      · exact C2P e.symm
      · exact I2P e.symm
    obtain ⟨o, vs, file, tf, flags, tg, inF, text, tt, op, q1, q2, q3, q4, q5, q6, q7, q8, q9⟩ := t2.code
    obtain ⟨⟨o', vs', q1', q2'⟩, q3'⟩ := t2.tab
    exact ⟨⟨o, vs, file, tf, flags, tg, inF, text, tt, op, r₄.heap _ _ hc4 q1, q2, q3, q4, q5, q6, q7, r₄.heap _ _ hP4 q8, q9⟩, ⟨o', vs', r₄.heap _ _ hc4 q1', q2'⟩, r₄.heap _ _ hP4 q3'⟩⟩
  have h4 := LS.aft (c := c) h.toP T1 A4
  obtain ⟨more4, T4⟩ := A4.tab ps T1
  refine LS.store (K := fun _ => True) (pv := .flt (sxyF xs ys)) FA h4 (rp_flt ..) (fun _ _ h => h) (.inl kS) fun s₅ h5 hoff => ?_
  have T5 := tab_off h4 T4 hoff
  show wpAny _ _ (execs (_ :: _) _) _ _ _
  have vS := h5.var (x := Str.ofString "sxy") (pv := .flt (sxyF xs ys)) (.inl kS) set_eq
  have vN := h5.var (x := sN) (pv := .int xs.length) (.inl kN) (by kernel_rfl)
  have hn1 : (xs.length : Int) - 1 ≠ 0 := by omega
  have hnn : ((xs.length : Int) - 1).natAbs < 2 ^ 64 := by omega
  with_reducible refine ex_ret (Y := Kn (fun _ => False) s₅) (P := fun K => Rp K (.flt (covF xs ys))) (ev_divFI hh (ev_var hkf vS (by decide +kernel) (by decide +kernel)) (ev_sub (ev_var hkf vN (by decide +kernel) (by decide +kernel)) ev_int) hn1 hnn) fun v s₆ k₆ hv => ?_
  obtain ⟨t, rfl⟩ := hv.inv_flt
  have h6 := h5.keeps k₆
  refine hQ t s₆ ⟨fun b o hb e => h6.keep b o e hb, fun _ => h6.same.1, h6.same.2, fun ps' t' => ⟨more4, ?_⟩⟩
  have e : ps' = ps := by
    have := T.tab.2.symm.trans t'.tab.2
    injection this with this
    injection this with _ _ h3
    injection h3 with h3
    exact h3.symm
  rw [e]
  exact T5.up (kp_up k₆)
end
end Mine
set_option maxRecDepth 100000
namespace Mine
section
variable {prog : Program} {w : World} {A : Around} {s : Shared} {mg mb : Str → Option Value}
set_option maxHeartbeats 4000000 in
theorem cv_run {K : Addr → Prop} {vx vy : Value} {c P a : Addr} (C : Wc mg mb c P s.heap) (hb : AllBare s.gens) (hh : A.handled = none) (hroom : A.depth + 1 < recursionLimit) {xs ys : List Int} (hl : ys.length = xs.length) (h2 : 2 ≤ xs.length) (hz : xs.length ≤ 1000)
    (hsx : ∀ x ∈ xs, x.natAbs < 2 ^ 64) (hsy : ∀ x ∈ ys, x.natAbs < 2 ^ 64) (hok : covOk xs ys = true) (hx : Rp K (.list (xs.map PV.int)) vx s.heap) (hy : Rp K (.list (ys.map PV.int)) vy s.heap) (ha : mg (Str.ofString "covariance") = some (.ref a))
    {E : Value → Shared → Prop} {Q : Value → Shared → Prop} (hQ : ∀ t s', Aft c P s s' → Q (.float (covF xs ys) t) s') : wpAny (model prog w) A (call (.ref a) [vx, vy]) Q E s := by
  obtain ⟨a', o, pm, doc, h1, ho, hf⟩ := C.fn
  rw [ha] at h1; cases h1
  obtain ⟨ok1, ok3⟩ := Bool.and_eq_true_iff.mp hok
  obtain ⟨ok1, ok2⟩ := Bool.and_eq_true_iff.mp ok1
  refine wpAny_call (call_cells (by omega) ho hf C.nl C.rc (binds := [(sX, vx), (sY, vy)]) (by kernel_rfl) ?_ (fun h₁ tk₁ F X => ?_) (by kernel_rfl) (by kernel_rfl) (by kernel_rfl))
  · intro x hx
    simp only [List.mem_cons, List.not_mem_nil, or_false] at hx
    rcases hx with rfl | rfl
    · exact .inl (by kernel_rfl)
    · exact .inl (by kernel_rfl)
  have SC : FrameAt (cvEnv s.heap.objs.size a (.ref c)) s ∧ LF (cvEnv s.heap.objs.size a (.ref c)) s (q0 xs ys) { s with heap := h₁, toks := tk₁ } := by
   refine startC (name := (recOf (stAt 6)).name) (scope := (recOf (stAt 6)).scope) (L := s.heap.objs.size) (a := a) (cd := .ref c) (Xs := fun _ => False) (tk := tk₁) (Sm := SmL s) (ρ := q0 xs ys) (base := s) (by kernel_rfl) (Nat.le_refl _) (fun x c' hm => by
    rw [show cellsFrom (s.heap.objs.size + 1) (recOf (stAt 6)).scope.names [] = [(Str.ofString "ybar", s.heap.objs.size + 2), (Str.ofString "xbar", s.heap.objs.size + 1)] by kernel_rfl] at hm
    simp only [List.mem_cons, List.not_mem_nil, or_false] at hm
    rcases hm with hm | hm <;> (cases hm; kernel_rfl)) F X ⟨hb, rfl⟩ (fun x pv e => ?_)
   simp only [q0, set] at e
   split at e
   · rename_i hxy; subst hxy; cases e
     exact ⟨fun _ => ⟨vy, by kernel_rfl, K, hy⟩, fun c' e => by
       rw [show cellsFrom (s.heap.objs.size + 1) (recOf (stAt 6)).scope.names [] = [(Str.ofString "ybar", s.heap.objs.size + 2), (Str.ofString "xbar", s.heap.objs.size + 1)] by kernel_rfl] at e
       exact absurd e (by rw [show List.lookup sY [(Str.ofString "ybar", s.heap.objs.size + 2), (Str.ofString "xbar", s.heap.objs.size + 1)] = none by kernel_rfl]; intro h; cases h)⟩
   · split at e
     · rename_i hxy; subst hxy; cases e
       exact ⟨fun _ => ⟨vx, by kernel_rfl, K, hx⟩, fun c' e => by
         rw [show cellsFrom (s.heap.objs.size + 1) (recOf (stAt 6)).scope.names [] = [(Str.ofString "ybar", s.heap.objs.size + 2), (Str.ofString "xbar", s.heap.objs.size + 1)] by kernel_rfl] at e
         exact absurd e (by rw [show List.lookup sX [(Str.ofString "ybar", s.heap.objs.size + 2), (Str.ofString "xbar", s.heap.objs.size + 1)] = none by kernel_rfl]; intro h; cases h)⟩
     · cases e
  obtain ⟨FA, L0⟩ := SC
  refine cv_head (a := a) (cd := .ref c) (L := s.heap.objs.size) rfl FA C (by exact hh) hl h2 hz hsx hsy ok1 ok2 L0 fun s₁ h₁ => ?_
  exact cv_tail (a := a) (L := s.heap.objs.size) rfl FA C (by exact hh) (by exact hroom) hl h2 hz hsx hsy ok3 h₁ fun t s' hA => hQ t s' hA
end
end Mine
set_option maxRecDepth 100000
namespace Mine
def covGood (M : Nat) : Bool := covOk (famL M) (colL 0) && (covOk (colL 1) (famL M) && (covOk (famL M) (colL 2) &&
  ((covF (famL M) (colL 0) == Float64.ofInt (dueZ M 0)) && ((covF (colL 1) (famL M) == Float64.ofInt (dueZ M 1)) && (covF (famL M) (colL 2) == Float64.ofInt (dueZ M 2))))))
section
variable {prog : Program} {w : World} {A : Around} {env : Env} {base s : Shared} {mg mb : Str → Option Value} {aS : Addr} {vs : List Value} {L fa : Addr} {cd : Value} {ρ : Str → Option PV} {Y : Addr → Prop}
def pullsPV (M : Nat) : PV := .list ((List.range 3).map fun j => .flt (Float64.ofInt (dueZ M j)))
def r9 (aS : Addr) (vs : List Value) : Str → Option PV := set (r8 aS vs) (Str.ofString "pulls") (pullsPV (mM vs))
theorem fam_small (M : Nat) : ∀ x ∈ famL M, x.natAbs < 2 ^ 64 := by
  intro x hx
  unfold famL at hx
  obtain ⟨k, _, rfl⟩ := List.mem_map.mp hx
  have := bt_le M k
  omega
theorem col_small (j : Nat) : ∀ x ∈ colL j, x.natAbs < 2 ^ 64 := by
  intro x hx
  unfold colL at hx
  obtain ⟨k, _, rfl⟩ := List.mem_map.mp hx
  split <;> decide
theorem cov_call {c P : Addr} {p pos : Pos} {es : List Expr} {xs ys : List Int} (hkf : env.scope.kind = .function) (hx : env.kindOf (Str.ofString "covariance") = some .globalImplicit) (eg : env.globals = mainGlobals) (eb : env.builtins = builtinsNs) (C : Wc mg mb c P s.heap) (hb : AllBare s.gens) (hh : A.handled = none) (hroom : A.depth + 1 < recursionLimit)
    (hlx : xs.length = 8) (hly : ys.length = 8) (hsx : ∀ x ∈ xs, x.natAbs < 2 ^ 64) (hsy : ∀ x ∈ ys, x.natAbs < 2 ^ 64) (hok : covOk xs ys = true)
    (ha : EvL prog w A env s Y pos es [.list (xs.map PV.int), .list (ys.map PV.int)]) (hsh : ∃ x rest, backTo pos (starEach es env) = (false, x) :: rest) {E : Value → Shared → Prop} {Q : Value → Shared → Prop} (hQ : ∀ t s', Aft c P s s' → Q (.float (covF xs ys) t) s') :
    wpAny (model prog w) A (eval (.Call (.Name (Str.ofString "covariance") p) es [] pos) env) Q E s := by
  obtain ⟨a, o, pm, doc, h1, h2, h3⟩ := C.fn
  refine call_gd_any hkf hx ⟨eg ▸ C.g, eb ▸ C.b⟩ h1 (ha s E _ (kp_refl _) fun vs s₁ k₁ hvs => ⟨⟨kp_up k₁ _ _ h2, h3⟩, ?_⟩) (by decide +kernel) hsh
  obtain ⟨v1, r1, rfl, g1, hvs⟩ := hvs.inv
  obtain ⟨v2, r2, rfl, g2, hvs⟩ := hvs.inv
  cases hvs.inv_nil
  have hb1 : AllBare s₁.gens := by obtain ⟨_, _, rfl, _⟩ := k₁; exact hb
  exact cv_run (C.up (kp_up k₁)) hb1 hh hroom (by omega) (by omega) (by omega) hsx hsy hok g1 g2 h1 fun t s' hA => hQ t s' ((Aft.keeps k₁).trans hA)
/-- the base, its code table grown -/
def rebase (base : Shared) (P : Addr) (ps : Array Value) : Shared := { base with heap := base.heap.update P fun _ => { cls := .none, data := .fields ps } }
theorem rebase_other (P : Addr) (ps : Array Value) {b : Addr} (hb : b ≠ P) : (rebase base P ps).heap.get? b = base.heap.get? b := Heap.get?_update_other _ _ (Ne.symm hb)
theorem rebase_self {P : Addr} {ps : Array Value} {o : Obj} (h : base.heap.get? P = some o) : (rebase base P ps).heap.get? P = some { cls := .none, data := .fields ps } := Heap.get?_update_self _ h rfl
theorem LP.rebase {c P : Addr} {ps ps' : Array Value} (h : LP P env base ρ s) (T : Tab c P ps base.heap) (T' : Tab c P ps' s.heap) : LW env (rebase base P ps') ρ s := by
  refine ⟨h.nd, h.same, fun b o e _ => ?_, h.ns, h.cells⟩
  by_cases hb : b = P
  · subst hb
    rw [rebase_self T.tab.2] at e
    exact T'.tab.2.trans e
  · rw [rebase_other P ps' hb] at e
    exact h.keep b o e hb
theorem FrameAt.rebase {c P : Addr} {ps ps' : Array Value} (F : FrameAt env base) (T : Tab c P ps base.heap) : FrameAt env (rebase base P ps') := by
  have P1 := T.tab.2
  have ne : ∀ {b : Addr}, base.heap.get? b = none → (Mine.rebase base P ps').heap.get? b = none := fun {b} hb => by
    rw [rebase_other P ps' (fun e => by rw [e, P1] at hb; cases hb)]; exact hb
  exact ⟨F.kind, ne F.loc, fun x c e => ⟨ne (F.cell x c e).1, (F.cell x c e).2⟩, F.apart, F.celk⟩
theorem Ctx.rebase {c P : Addr} {ps' : Array Value} (X : Ctx prog w A env base mg mb aS vs L fa cd) (T : Tab c P #[] base.heap) : Ctx prog w A env (rebase base P ps') mg mb aS vs L fa cd :=
  ⟨X.hE, X.hh, X.room, X.FA.rebase T, X.W.but T.tab.2 rfl fun b o e hb => (rebase_other P ps' hb).trans e, X.B, X.sints, X.len⟩
set_option maxHeartbeats 4000000 in
theorem law9 (X : Ctx prog w A env base mg mb aS vs L fa cd) {c P : Addr} (C : Wc mg mb c P base.heap) (T : Tab c P #[] base.heap) (hroom : A.depth + 1 < recursionLimit) (hg : covGood (mM vs) = true) (h : LW env base (r8 aS vs) s) {E : Value → Shared → Prop} {Q : Flow → Shared → Prop}
    (hQ : ∀ ps' s', Tab c P ps' s'.heap → LW env (rebase base P ps') (r9 aS vs) s' → wpAny (model prog w) A (execs (lawB.drop 10) env) Q E s') :
    wpAny (model prog w) A (execs (lawB.drop 9) env) Q E s := by
  have hE := X.hE
  have hkf := X.kf
  have eg : env.globals = mainGlobals := by rw [hE]; rfl
  have eb : env.builtins = builtinsNs := by rw [hE]; rfl
  obtain ⟨q1, hg⟩ := Bool.and_eq_true_iff.mp hg
  obtain ⟨q2, hg⟩ := Bool.and_eq_true_iff.mp hg
  obtain ⟨q3, hg⟩ := Bool.and_eq_true_iff.mp hg
  obtain ⟨w1, hg⟩ := Bool.and_eq_true_iff.mp hg
  obtain ⟨w2, w3⟩ := Bool.and_eq_true_iff.mp hg
  have w1 := eq_of_beq w1
  have w2 := eq_of_beq w2
  have w3 := eq_of_beq w3
  have kC : env.kindOf (Str.ofString "covariance") = some .globalImplicit := by subst hE; kernel_rfl
  have kF : env.kindOf (Str.ofString "family") = some .local := by subst hE; kernel_rfl
  have kO : env.kindOf (Str.ofString "columns") = some .local := by subst hE; kernel_rfl
  have kU : env.kindOf (Str.ofString "pulls") = some .cell := by subst hE; kernel_rfl
  have cU : env.cells.lookup (Str.ofString "pulls") = some (L + 8) := by subst hE; kernel_rfl
  have h0 := LF.toP (P := P) h
  have up0 : Up base.heap s.heap := fun b o e => h.keep b o e fun x => x
  have C0 := C.up up0
  have T0 := T.up up0
  have fl : (famL (mM vs)).length = 8 := by unfold famL; simp
  have cl : ∀ j, (colL j).length = 8 := fun j => by unfold colL; simp
  have eF : ∀ {s' : Shared}, LP P env base (r8 aS vs) s' → ∀ pos, Ev prog w A env s' (Kn (fun _ => False) s') (.Name (Str.ofString "family") pos) (fun K => Rp K (.list ((famL (mM vs)).map PV.int))) := fun h pos => ev_var hkf (h.var (.inl kF) (by kernel_rfl)) (by decide +kernel) (by decide +kernel)
  have eO : ∀ {s' : Shared}, LP P env base (r8 aS vs) s' → ∀ pos, Ev prog w A env s' (Kn (fun _ => False) s') (.Name (Str.ofString "columns") pos) (fun K => Rp K colsPV) := fun h pos => ev_var hkf (h.var (.inl kO) (by kernel_rfl)) (by decide +kernel) (by decide +kernel)
  show wpAny _ _ (execs (_ :: _) _) _ _ _
  refine wpAny_execs_cons (wpAny_Assign_Name ?_ (by subst hE; kernel_rfl))
  refine wpAny_List ?_
  refine wpAny_items_cons (cov_call hkf kC eg eb C0 h0.same.1 X.hh hroom fl (cl 0) (fam_small _) (col_small _) q1 (evl_cons (eF h0 _) (evl_cons (ev_item (eO h0 _) ev_int (by decide) (by kernel_rfl) (sz_le 3 (by kernel_rfl) (by decide))) evl_nil)) (by rw [se_name]; exact ⟨_, _, rfl⟩) fun t1 s1 A1 => ?_) (se_call ..)
  have h1 := LS.aft h0 T0 A1
  have C1 := C0.aft A1
  obtain ⟨m1, T1⟩ := A1.tab _ T0
  refine wpAny_items_cons (cov_call hkf kC eg eb C1 h1.same.1 X.hh hroom (cl 1) fl (col_small _) (fam_small _) q2 (evl_cons (ev_item (eO h1 _) ev_int (by decide) (by kernel_rfl) (sz_le 3 (by kernel_rfl) (by decide))) (evl_cons (eF h1 _) evl_nil)) (by rw [se_sub]; exact ⟨_, _, rfl⟩) fun t2 s2 A2 => ?_) (se_call ..)
  have h2 := LS.aft h1 T1 A2
  have C2 := C1.aft A2
  obtain ⟨m2, T2⟩ := A2.tab _ T1
  refine wpAny_items_cons (cov_call hkf kC eg eb C2 h2.same.1 X.hh hroom fl (cl 2) (fam_small _) (col_small _) q3 (evl_cons (eF h2 _) (evl_cons (ev_item (eO h2 _) ev_int (by decide) (by kernel_rfl) (sz_le 3 (by kernel_rfl) (by decide))) evl_nil)) (by rw [se_name]; exact ⟨_, _, rfl⟩) fun t3 s3 A3 => ?_) (se_call ..)
  have h3 := LS.aft h2 T2 A3
  obtain ⟨m3, T3⟩ := A3.tab _ T2
  refine wpAny_items_nil ⟨by show 3 ≤ sizeLine; decide, ?_⟩
  rw [w1, w2, w3]
  generalize hH : s3.heap.push _ = H
  have kH : Keeps s3 { s3 with heap := H } := by rw [← hH]; exact kp_push _ _
  have h4 := h3.keeps kH
  have T4 := T3.up (kp_up kH)
  have hr : Rp (fun _ => True) (pullsPV (mM vs)) (.ref s3.heap.objs.size) H := by
    refine rp_list trivial ⟨0, by rw [← hH]; exact Heap.get?_push_size _ rfl⟩ ?_
    exact .cons (rp_flt ..) (.cons (rp_flt ..) (.cons (rp_flt ..) (.nil _)))
  refine LS.store X.FA h4 hr (fun _ _ h => h) (.inr ⟨kU, by rw [cU]; rfl⟩) fun s5 h5 hoff => ?_
  have T5 := tab_off h4 T4 hoff
  exact hQ _ s5 T5 (LP.rebase h5 T T5)
end
end Mine
set_option maxRecDepth 100000
namespace Mine
open Float64
/-- half of an int, as a double -/
def hf (k : Int) : UInt64 := Float64.ofFrac (decide (k < 0)) k.natAbs 2
theorem dist_self (a : Nat) : dist a a = 0 := by unfold dist; omega
theorem dist_zero {a b : Nat} (h : dist a b = 0) : a = b := by unfold dist at h; omega
theorem V_inj {a b : Nat} (h : V a = V b) : a = b := by
  rcases Nat.lt_trichotomy a b with g | g | g
  · have := V_lt g; omega
  · exact g
  · have := V_lt g; omega
theorem rep (n : Nat) (h0 : n ≠ 0) (h : n < 2 ^ 53) : ∃ t, V t = n * 2 ^ 1073 := by
  have hl : n.log2 < 53 := (Nat.log2_lt h0).mpr h
  have h1 : 2 ^ n.log2 ≤ n := Nat.log2_self_le h0
  have h2 : n < 2 ^ (n.log2 + 1) := Nat.lt_log2_self
  refine ⟨(1021 + n.log2) * 2 ^ 52 + n * 2 ^ (52 - n.log2), ?_⟩
  have e1 : 2 ^ n.log2 * 2 ^ (52 - n.log2) = 2 ^ 52 := by rw [← Nat.pow_add]; congr 1; omega
  have e2 : 2 ^ (n.log2 + 1) * 2 ^ (52 - n.log2) = 2 ^ 53 := by rw [← Nat.pow_add]; congr 1; omega
  have g1 : 2 ^ 52 ≤ n * 2 ^ (52 - n.log2) := by rw [← e1]; exact Nat.mul_le_mul_right _ h1
  have g2 : n * 2 ^ (52 - n.log2) ≤ 2 ^ 53 := by rw [← e2]; exact Nat.mul_le_mul_right _ (Nat.le_of_lt h2)
  rw [V_at g2 (.inl g1), Nat.mul_assoc, ← Nat.pow_add]
  congr 2; omega
theorem rep0 (n : Nat) (h : n < 2 ^ 53) : ∃ t, V t = n * 2 ^ 1073 := by
  by_cases h0 : n = 0
  · subst h0; exact ⟨0, by rw [V_zero, Nat.zero_mul]⟩
  · exact rep n h0 h
theorem right_at {r : UInt64} {neg : Bool} {n : Nat} (h : Right r neg (n * 2 ^ 1073) 1) (hn : n < 2 ^ 53) : ∃ t, r = pack neg t ∧ t < infMag ∧ V t = n * 2 ^ 1073 := by
  obtain ⟨t, hr, hle, hinf, hmin⟩ := h
  have hlt : t < infMag := by
    rcases Nat.lt_or_ge t infMag with g | g
    · exact g
    · exfalso
      have := hinf.mp (by omega)
      rw [Nat.one_mul] at this
      have e : (2 ^ 54 - 1) * 2 ^ 2045 ≤ 2 ^ 1127 := by
        refine Nat.le_trans this ?_
        calc 2 * (n * 2 ^ 1073) = n * (2 * 2 ^ 1073) := by ac_rfl
          _ ≤ 2 ^ 53 * (2 * 2 ^ 1073) := Nat.mul_le_mul_right _ (Nat.le_of_lt hn)
          _ = 2 ^ 1127 := by rw [← Nat.pow_succ', ← Nat.pow_add]
      exact absurd e (by decide +kernel)
  obtain ⟨t', ht'⟩ := rep0 n hn
  have := (hmin hlt t').1
  rw [ht', Nat.one_mul, Nat.one_mul, dist_self] at this
  exact ⟨t, hr, hlt, (dist_zero (Nat.le_zero.mp this)).symm⟩
theorem hf_right (k : Int) : Right (hf k) (decide (k < 0)) (k.natAbs * 2 ^ 1073) 1 := by
  refine ofFrac_right (by decide) ?_ (by decide)
  rw [Nat.mul_one, Nat.mul_assoc, ← Nat.pow_succ]
theorem right_eq {r : UInt64} {k : Int} (h : Right r (decide (k < 0)) (k.natAbs * 2 ^ 1073) 1) (hk : k.natAbs < 2 ^ 53) : r = hf k := by
  obtain ⟨t, h1, _, h2⟩ := right_at h hk
  obtain ⟨t', h1', _, h2'⟩ := right_at (hf_right k) hk
  rw [h1, h1', V_inj (h2.trans h2'.symm)]
theorem hf_dec (k : Int) (hk : k.natAbs < 2 ^ 53) : (∃ m e, decode (hf k) = .fin (decide (k < 0)) m e) ∧ val (hf k) = k * 2 ^ 1073 := by
  obtain ⟨t, h1, h2, h3⟩ := right_at (hf_right k) hk
  rw [h1]
  obtain ⟨m, e, hd, _⟩ := decode_pack (decide (k < 0)) h2
  refine ⟨⟨m, e, hd⟩, ?_⟩
  rw [val_pack _ h2, h3]
  unfold sgn
  have hp : ((2 ^ 1073 : Nat) : Int) = 2 ^ 1073 := by simp
  by_cases hn : k < 0
  · simp only [hn, decide_true, if_true]
    rw [Int.natCast_mul, hp, ← Int.neg_mul]
    congr 1; omega
  · simp only [hn, decide_false, Bool.false_eq_true, if_false]
    rw [Int.natCast_mul, hp]
    congr 1; omega
theorem pw : (0 : Int) < 2 ^ 1073 := Int.pow_pos (by decide)
theorem scale_lt (k : Int) : decide (k * 2 ^ 1073 < 0) = decide (k < 0) := by
  have := pw
  generalize (2 : Int) ^ 1073 = p at *
  by_cases h : k < 0
  · simp [h, Int.mul_neg_of_neg_of_pos h this]
  · have : 0 ≤ k * p := Int.mul_nonneg (by omega) (by omega)
    simp only [h, decide_false, decide_eq_false_iff_not]; omega
theorem scale_abs (k : Int) : (k * 2 ^ 1073).natAbs = k.natAbs * 2 ^ 1073 := by rw [Int.natAbs_mul]; rfl
theorem scale_zero {k : Int} : k * 2 ^ 1073 = 0 ↔ k = 0 := by
  have := pw
  generalize (2 : Int) ^ 1073 = p at *
  constructor
  · intro h
    rcases Int.mul_eq_zero.mp h with h | h
    · exact h
    · omega
  · rintro rfl; simp
theorem hf_zero : hf 0 = zero false := by decide +kernel
theorem add_hf {a b : Int} (ha : a.natAbs < 2 ^ 53) (hb : b.natAbs < 2 ^ 53) (hab : (a + b).natAbs < 2 ^ 53) : add (hf a) (hf b) = hf (a + b) := by
  obtain ⟨⟨m, e, hd⟩, hv⟩ := hf_dec a ha
  obtain ⟨⟨k, f, hd'⟩, hv'⟩ := hf_dec b hb
  obtain ⟨h0, h1⟩ := add_right hd hd'
  rw [hv, hv', ← Int.add_mul] at h0 h1
  by_cases hz : a + b = 0
  · rw [h0 (scale_zero.mpr hz), hz, hf_zero]
    congr 1
    have : ¬ (a < 0 ∧ b < 0) := by omega
    simp only [Bool.and_eq_false_iff, decide_eq_false_iff_not]
    omega
  · have h1 := h1 fun e => hz (scale_zero.mp e)
    rw [scale_lt, scale_abs] at h1
    exact right_eq h1 hab
theorem sub_hf {a b : Int} (ha : a.natAbs < 2 ^ 53) (hb : b.natAbs < 2 ^ 53) (hab : (a - b).natAbs < 2 ^ 53) : sub (hf a) (hf b) = hf (a - b) := by
  obtain ⟨⟨m, e, hd⟩, hv⟩ := hf_dec a ha
  obtain ⟨⟨k, f, hd'⟩, hv'⟩ := hf_dec b hb
  obtain ⟨h0, h1⟩ := sub_right hd hd'
  rw [hv, hv', ← Int.sub_mul] at h0 h1
  by_cases hz : a - b = 0
  · rw [h0 (scale_zero.mpr hz), hz, hf_zero]
    congr 1
    have : a = b := by omega
    subst this
    simp
  · have h1 := h1 fun e => hz (scale_zero.mp e)
    rw [scale_lt, scale_abs] at h1
    exact right_eq h1 hab
theorem ofInt_hf (n : Int) (h : (2 * n).natAbs < 2 ^ 53) : ofInt n = hf (2 * n) := by
  refine right_eq ?_ h
  have h1 := ofInt_right n
  have e : n.natAbs * 2 ^ 1074 = (2 * n).natAbs * 2 ^ 1073 := by
    rw [Int.natAbs_mul, show (2 : Int).natAbs = 2 from rfl, Nat.mul_comm 2, Nat.mul_assoc, ← Nat.pow_succ']
  have e2 : decide (n < 0) = decide (2 * n < 0) := by
    congr 1
    exact propext (by omega)
  rw [e, e2] at h1
  exact h1
theorem fin_hf (a : Int) (ha : a.natAbs < 2 ^ 53) : isFinite (hf a) = true := by
  obtain ⟨⟨m, e, hd⟩, _⟩ := hf_dec a ha
  unfold isFinite; rw [hd]
theorem nan_hf (a : Int) (ha : a.natAbs < 2 ^ 53) : Float64.isNaN (hf a) = false := by
  obtain ⟨⟨m, e, hd⟩, _⟩ := hf_dec a ha
  unfold Float64.isNaN; rw [hd]
theorem cmp_hf {a b : Int} (ha : a.natAbs < 2 ^ 53) (hb : b.natAbs < 2 ^ 53) : cmp (hf a) (hf b) = some (compare a b) := by
  obtain ⟨⟨m, e, hd⟩, hv⟩ := hf_dec a ha
  obtain ⟨⟨k, f, hd'⟩, hv'⟩ := hf_dec b hb
  rw [cmp_right hd hd', hv, hv']
  have := pw
  generalize (2 : Int) ^ 1073 = p at *
  congr 1
  rcases Int.lt_trichotomy a b with h | h | h
  · rw [Int.compare_eq_lt.mpr h, Int.compare_eq_lt.mpr (Int.mul_lt_mul_of_pos_right h this)]
  · subst h; simp
  · rw [Int.compare_eq_gt.mpr h, Int.compare_eq_gt.mpr (Int.mul_lt_mul_of_pos_right h this)]
end Mine
set_option maxRecDepth 100000
namespace Mine
open Float64
theorem zero0 : (0 : UInt64) = hf 0 := by decide +kernel
theorem isz0 : Float64.isZero (hf 0) = true := by decide +kernel
theorem settled0 (t : UInt64) : Num.settled t (hf 0) = t := by unfold Num.settled; rw [isz0]; simp
/-- the sum of floats that are small ints -/
theorem sumFloats_hf : ∀ (l : List Int) (t : Int), (∀ x ∈ l, x.natAbs < 1000) → t.natAbs + 1000 * l.length < 100000 → Num.sumFloats (hf (2 * t)) (hf 0) (l.map fun x => .float (ofInt x)) = some (.float (hf (2 * (t + l.sum))))
  | [], t, _, _ => by simp [Num.sumFloats, settled0]
  | x :: l, t, hx, ht => by
    have h1 := hx x List.mem_cons_self
    rw [List.length_cons] at ht
    have ex : ofInt x = hf (2 * x) := ofInt_hf x (by omega)
    have es : Float64.add (hf (2 * t)) (hf (2 * x)) = hf (2 * t + 2 * x) := add_hf (by omega) (by omega) (by omega)
    have e1 : Float64.sub (hf (2 * x)) (hf (2 * t + 2 * x)) = hf (2 * x - (2 * t + 2 * x)) := sub_hf (by omega) (by omega) (by omega)
    have e2 : Float64.add (hf (2 * x - (2 * t + 2 * x))) (hf (2 * t)) = hf 0 := by rw [add_hf (by omega) (by omega) (by omega)]; congr 1; omega
    have e3 : Float64.sub (hf (2 * t)) (hf (2 * t + 2 * x)) = hf (2 * t - (2 * t + 2 * x)) := sub_hf (by omega) (by omega) (by omega)
    have e4 : Float64.add (hf (2 * t - (2 * t + 2 * x))) (hf (2 * x)) = hf 0 := by rw [add_hf (by omega) (by omega) (by omega)]; congr 1; omega
    have e5 : Float64.add (hf 0) (hf 0) = hf 0 := by rw [add_hf (by decide) (by decide) (by decide)]; rfl
    have ih := sumFloats_hf l (t + x) (fun y hy => hx y (List.mem_cons_of_mem _ hy)) (by omega)
    rw [List.map_cons, Num.sumFloats]
    simp only [ex, es, e1, e2, e3, e4, ite_self, e5]
    rw [show 2 * t + 2 * x = 2 * (t + x) by omega, ih, List.sum_cons]
    congr 4; omega
theorem sum_floats (x : Int) (l : List Int) (hx : ∀ y ∈ x :: l, y.natAbs < 1000) (hl : l.length < 90) : Num.sumInts 0 ((x :: l).map fun y => .float (ofInt y)) = some (.float (ofInt (x :: l).sum)) := by
  have h1 := hx x List.mem_cons_self
  have ex : ofInt x = hf (2 * x) := ofInt_hf x (by omega)
  have e0 : ofInt 0 = hf 0 := by decide +kernel
  rw [List.map_cons, Num.sumInts, e0, ex, add_hf (by decide) (by omega) (by omega), zero0, show (0 : Int) + 2 * x = 2 * x by omega, sumFloats_hf l x (fun y hy => hx y (List.mem_cons_of_mem _ hy)) (by omega)]
  rw [List.sum_cons, ofInt_hf]
  have hb : ∀ l : List Int, (∀ y ∈ l, y.natAbs < 1000) → l.sum.natAbs ≤ 1000 * l.length := by
    intro l hl
    induction l with
    | nil => simp
    | cons a l ih =>
      have := hl a List.mem_cons_self
      have := ih fun y hy => hl y (List.mem_cons_of_mem _ hy)
      rw [List.sum_cons, List.length_cons]; omega
  have := hb l fun y hy => hx y (List.mem_cons_of_mem _ hy)
  omega
end Mine
set_option maxRecDepth 100000
namespace Mine
theorem in_tl (vs : List Value) : ∀ k, k < 8 → ∀ i, i < 3 → ((tl vs k).any fun y => y == nm (plD vs i)) = k.testBit i := by
  have ne := nm_ne vs
  have z0 := nm_nz vs 0
  have z1 := nm_nz vs 1
  have z2 := nm_nz vs 2
  have a0 : plD vs 0 = pl0 vs := rfl
  have a1 : plD vs 1 = pl1 vs := rfl
  have a2 : plD vs 2 = pl2 vs := rfl
  rw [a0] at z0; rw [a1] at z1; rw [a2] at z2
  intro k hk i hi
  generalize hn0 : nm (pl0 vs) = n0 at *
  generalize hn1 : nm (pl1 vs) = n1 at *
  generalize hn2 : nm (pl2 vs) = n2 at *
  generalize hz : Str.ofString "0x0" = z at *
  have key : ∀ (i : Nat), i < 3 → nm (plD vs i) = [n0, n1, n2].getD i z := by
    intro i hi
    match i, hi with
    | 0, _ => rw [a0, hn0]; rfl
    | 1, _ => rw [a1, hn1]; rfl
    | 2, _ => rw [a2, hn2]; rfl
  have ht : tl vs k = if k = 0 then [z] else (bsel k).map fun j => [n0, n1, n2].getD j z := by
    unfold tl
    rw [hz]
    split
    · rfl
    · refine List.map_congr_left fun j hj => key j ?_
      unfold bsel at hj
      simpa using (List.mem_filter.mp hj).1
  rw [ht, key i hi]
  obtain ⟨e1, e2, e3⟩ := ne
  have f1 := Ne.symm e1
  have f2 := Ne.symm e2
  have f3 := Ne.symm e3
  have g1 : (n0 == n1) = false := beq_false_of_ne e1
  have g2 : (n0 == n2) = false := beq_false_of_ne e2
  have g3 : (n1 == n2) = false := beq_false_of_ne e3
  have g4 : (n1 == n0) = false := beq_false_of_ne f1
  have g5 : (n2 == n0) = false := beq_false_of_ne f2
  have g6 : (n2 == n1) = false := beq_false_of_ne f3
  have g7 : (z == n0) = false := beq_false_of_ne z0
  have g8 : (z == n1) = false := beq_false_of_ne z1
  have g9 : (z == n2) = false := beq_false_of_ne z2
  clear key ht hn0 hn1 hn2 hz a0 a1 a2
  match i, hi with
  | 0, _ | 1, _ | 2, _ =>
    match k, hk with
    | 0, _ | 1, _ | 2, _ | 3, _ | 4, _ | 5, _ | 6, _ | 7, _ => simp +decide [b0, b1, b2, b3, b4, b5, b6, b7, g1, g2, g3, g4, g5, g6, g7, g8, g9]
def tz (M k : Nat) : Int := ((bsel k).map (dueZ M)).sum
def totPV (M k : Nat) : PV := if k = 0 then .int 0 else .flt (Float64.ofInt (tz M k))
def totalsPV (M : Nat) : PV := .list ((List.range 8).map (totPV M))
theorem due_small : ∀ M, M < 256 → ∀ j, j < 3 → (dueZ M j).natAbs ≤ 16 := by decide +kernel
theorem bsel_mem {k j : Nat} (h : j ∈ bsel k) : j < 3 := by unfold bsel at h; simpa using (List.mem_filter.mp h).1
theorem tot_sum (M : Nat) (hM : M < 256) (k : Nat) (hk : k < 8) : Num.sumInts 0 (((bsel k).map fun j => PV.flt (Float64.ofInt (dueZ M j))).map wd) = some (wd (totPV M k)) := by
  have hb : ∀ y ∈ (bsel k).map (dueZ M), y.natAbs < 1000 := by
    intro y hy
    obtain ⟨j, hj, rfl⟩ := List.mem_map.mp hy
    have := due_small M hM j (bsel_mem hj)
    omega
  have hlen := bsel_len k hk
  have e : ((bsel k).map fun j => PV.flt (Float64.ofInt (dueZ M j))).map wd = ((bsel k).map (dueZ M)).map fun y => WData.float (Float64.ofInt y) := by rw [List.map_map, List.map_map]; rfl
  rw [e]
  unfold totPV tz
  by_cases h0 : k = 0
  · subst h0; rw [b0]; rfl
  · have hne := bsel_ne k hk h0
    rw [if_neg h0]
    cases hl : (bsel k).map (dueZ M) with
    | nil => exact absurd (List.map_eq_nil_iff.mp hl) hne
    | cons x l =>
      rw [hl] at hb
      have : (x :: l).length ≤ 3 := by rw [← hl, List.length_map]; exact hlen
      rw [List.length_cons] at this
      exact sum_floats x l hb (by omega)
section
variable {prog : Program} {w : World} {A : Around} {env : Env} {base s : Shared} {mg mb : Str → Option Value} {aS : Addr} {vs : List Value} {L fa : Addr} {cd : Value} {ρ : Str → Option PV} {Y : Addr → Prop}
theorem any_isStr (x : Str) : ∀ {vs : List Value} {ys : List Str}, StrsAre vs ys → vs.any (isStrOf x) = ys.any fun y => y == x
  | _, _, .nil => rfl
  | _, _, .cons n u h => by rw [List.any_cons, List.any_cons, any_isStr x h]; rfl
theorem in_tst {l r : Expr} {pos : Pos} {x : Str} {ys : List Str} (hl : Ev prog w A env s Y l (fun K => Rp K (.str x))) (hr : Ev prog w A env s Y r (fun K => Rp K (.list (ys.map PV.str)))) (hm : behindInMarks .In r = false) : Tst prog w A env s (.Compare l [.In] [r] pos) (ys.any fun y => y == x) :=
  tst_cmp hl hr (fun K va vb s' E Q _ ha hb hQ => by
    obtain ⟨t, rfl⟩ := ha.inv_str
    obtain ⟨a, its, rfl, _, hp, hL⟩ := hb.inv_list
    have hs := rpl_strs hL
    refine SeqAt.in_listAt (isStrOf x) hp.isList (fun y hy => (eq_isStrOf x t hs y (by simpa using hy)).at _ _) ?_
    rw [show its.toArray.any (isStrOf x) = its.any (isStrOf x) by simp, any_isStr x hs]
    exact hQ s' (kp_refl _)) hm
def r10 (aS : Addr) (vs : List Value) : Str → Option PV := set (r9 aS vs) (Str.ofString "totals") (totalsPV (mM vs))
set_option maxHeartbeats 4000000 in
theorem law10 (X : Ctx prog w A env base mg mb aS vs L fa cd) (h : LW env base (r9 aS vs) s) {E : Value → Shared → Prop} {Q : Flow → Shared → Prop}
    (hQ : ∀ s', LW env base (r10 aS vs) s' → wpAny (model prog w) A (execs (lawB.drop 11) env) Q E s') :
    wpAny (model prog w) A (execs (lawB.drop 10) env) Q E s := by
  have hE := X.hE
  have kN : env.kindOf (Str.ofString "names") = some .cell := by subst hE; kernel_rfl
  have cN : env.cells.lookup (Str.ofString "names") = some (L + 4) := by subst hE; kernel_rfl
  have kT : env.kindOf (Str.ofString "told") = some .cell := by subst hE; kernel_rfl
  have cT : env.cells.lookup (Str.ofString "told") = some (L + 7) := by subst hE; kernel_rfl
  have kU : env.kindOf (Str.ofString "pulls") = some .cell := by subst hE; kernel_rfl
  have cU : env.cells.lookup (Str.ofString "pulls") = some (L + 8) := by subst hE; kernel_rfl
  have vN := h.var (x := Str.ofString "names") (pv := .list ((nms vs).map PV.str)) (.inr ⟨kN, by rw [cN]; rfl⟩) (by kernel_rfl)
  have vT := h.var (x := Str.ofString "told") (pv := .list ((List.range 8).map fun k => .list ((tl vs k).map PV.str))) (.inr ⟨kT, by rw [cT]; rfl⟩) (by kernel_rfl)
  have vU := h.var (x := Str.ofString "pulls") (pv := .list ((List.range 3).map fun j => .flt (Float64.ofInt (dueZ (mM vs) j)))) (.inr ⟨kU, by rw [cU]; rfl⟩) (by kernel_rfl)
  have G := X.glb h
  show wpAny _ _ (execs (_ :: _) _) _ _ _
  with_reducible refine ex_assign (pv := totalsPV (mM vs)) X.FA h (.inr ⟨by subst hE; kernel_rfl, by subst hE; kernel_rfl⟩) ?_ (by subst hE; kernel_rfl) (fun s' hl => ?_)
  · with_reducible refine ev_compE (cl := [(Str.ofString "pulls", L + 8), (Str.ofString "names", L + 4)]) (l := (List.range 8).map fun k => .list ((tl vs k).map PV.str)) X.hh (by subst hE; kernel_rfl) (by kernel_rfl) (by decide +kernel) kn_dm ((ev_var X.kf vT (by decide +kernel) (by decide +kernel)).imp fun _ _ _ h => IterOf.ofL h) (sz_le 8 (by kernel_rfl) (by decide)) ?_ (fun _ => true) (fun k => totPV (mM vs) k) (fun C i pv v s₃ T Y' hY hY' hi hr hsl k₃ => ⟨tsts_nil, fun _ => ?_⟩) (by intro _; kernel_rfl) (by kernel_rfl)
    · right
      subst hE
      exact ⟨fun _ _ => by kernel_rfl, fun _ => by kernel_rfl, by kernel_rfl⟩
    · obtain ⟨hi8, rfl⟩ : i < 8 ∧ pv = .list ((tl vs i).map PV.str) := by
        rw [List.getElem?_map] at hi
        obtain ⟨k, hk, rfl⟩ := Option.map_eq_some_iff.mp hi
        obtain ⟨hk1, hk2⟩ := List.getElem?_eq_some_iff.mp hk
        rw [List.length_range] at hk1
        rw [List.getElem_range] at hk2
        subst hk2
        exact ⟨hk1, rfl⟩
      generalize hCe : compEnvC _ _ C env = ce at hsl ⊢
      have kf : ce.scope.kind = .function := by subst hCe hE; kernel_rfl
      have vk := hsl.var hr
      have kK : ce.kindOf (Str.ofString "row") = some .cell := by subst hCe hE; kernel_rfl
      have cK : ce.cells.lookup (Str.ofString "row") = some (C + 1) := by subst hCe hE; kernel_rfl
      have kN3 : ce.kindOf (Str.ofString "names") = some .cell := by subst hCe hE; kernel_rfl
      have cN3 : ce.cells.lookup (Str.ofString "names") = some (L + 4) := by subst hCe hE; kernel_rfl
      have kU3 : ce.kindOf (Str.ofString "pulls") = some .cell := by subst hCe hE; kernel_rfl
      have cU3 : ce.cells.lookup (Str.ofString "pulls") = some (L + 8) := by subst hCe hE; kernel_rfl
      have vN3 : VarIs ce s₃ Y' (Str.ofString "names") (.list ((nms vs).map PV.str)) := in_var vN k₃ hY kN cN kN3 cN3
      have vU3 : VarIs ce s₃ Y' (Str.ofString "pulls") (.list ((List.range 3).map fun j => .flt (Float64.ofInt (dueZ (mM vs) j)))) := in_var vU k₃ hY kU cU kU3 cU3
      have G3 : Glb ce s₃ mg mb := by subst hCe; exact (G.keeps k₃).comp
      have hnum : (((bsel i).map fun j => PV.flt (Float64.ofInt (dueZ (mM vs) j))).all isNum) = true := by simp [isNum]
      have hnt : isNum (totPV (mM vs) i) = true := by unfold totPV; split <;> rfl
      with_reducible refine ev_call_b kf (by subst hCe hE; kernel_rfl) G3 X.B.sum.1 X.B.sum.2 (evl_cons ?_ evl_nil) (sumF_cn X.hh ((bsel i).map fun j => PV.flt (Float64.ofInt (dueZ (mM vs) j))) hnum (totPV (mM vs) i) hnt (tot_sum _ (mM_lt vs) i hi8)) (Rp.ok _) (by decide +kernel) (sh1 (se_comp ..)).1 (sh1 (se_comp ..)).2
      with_reducible refine ev_compE (cl := [(Str.ofString "row", C + 1), (Str.ofString "pulls", L + 8), (Str.ofString "names", L + 4)]) (l := (List.range 3).map fun (i : Nat) => PV.int i) X.hh ?_ (by kernel_rfl) (by decide +kernel) hY' (ev_range kf (by subst hCe hE; kernel_rfl) G3 (n := 3) X.B.range.1 X.B.range.2 (ev_intN rfl) (by decide) (se_const ..) (by decide +kernel)) (by decide) ?_ (fun j => i.testBit j) (fun j => .flt (Float64.ofInt (dueZ (mM vs) j))) (fun C2 j pv v s₄ T4 Y4 hY4 hY4' hj hr4 hsl4 k₄ => ?_) (by intro _; kernel_rfl) ?_
      · subst hCe hE; kernel_rfl
      · left
        subst hCe hE
        exact ⟨fun _ _ => by kernel_rfl, fun _ => by kernel_rfl, by kernel_rfl⟩
      · obtain ⟨hj3, rfl⟩ := range_get hj
        generalize hCd : compEnvC _ _ C2 ce = cf at hsl4 ⊢
        have kf4 : cf.scope.kind = .function := by subst hCd hCe hE; kernel_rfl
        have vj := hsl4.var hr4
        have vN4 : VarIs cf s₄ Y4 (Str.ofString "names") (.list ((nms vs).map PV.str)) := in_var vN3 k₄ hY4 kN3 cN3 (by subst hCd hCe hE; kernel_rfl) (by subst hCd hCe hE; kernel_rfl)
        have vU4 : VarIs cf s₄ Y4 (Str.ofString "pulls") (.list ((List.range 3).map fun j => .flt (Float64.ofInt (dueZ (mM vs) j)))) := in_var vU3 k₄ hY4 kU3 cU3 (by subst hCd hCe hE; kernel_rfl) (by subst hCd hCe hE; kernel_rfl)
        have vk4 : VarIs cf s₄ Y4 (Str.ofString "row") (.list ((tl vs i).map PV.str)) := in_var vk k₄ hY4 kK cK (by subst hCd hCe hE; kernel_rfl) (by subst hCd hCe hE; kernel_rfl)
        have hnj : ((nms vs).map PV.str)[((j : Nat) : Int).toNat]? = some (.str (nm (plD vs j))) := by
          match j, hj3 with
          | 0, _ | 1, _ | 2, _ => kernel_rfl
        have hpj : ((List.range 3).map fun j => PV.flt (Float64.ofInt (dueZ (mM vs) j)))[((j : Nat) : Int).toNat]? = some (.flt (Float64.ofInt (dueZ (mM vs) j))) := by
          match j, hj3 with
          | 0, _ | 1, _ | 2, _ => kernel_rfl
        refine ⟨?_, fun _ => ?_⟩
        · rw [← in_tl vs i hi8 j hj3]
          with_reducible exact tsts_one (in_tst (ev_item (ev_var kf4 vN4 (by decide +kernel) (by decide +kernel)) (ev_var kf4 vj (by decide +kernel) (by decide +kernel)) (by omega) hnj (sz_le 3 (by kernel_rfl) (by decide))) (ev_var kf4 vk4 (by decide +kernel) (by decide +kernel)) (by kernel_rfl))
        · with_reducible exact ev_item (ev_var kf4 vU4 (by decide +kernel) (by decide +kernel)) (ev_var kf4 vj (by decide +kernel) (by decide +kernel)) (by omega) hpj (sz_le 3 (by kernel_rfl) (by decide))
      · unfold bsel
        kernel_rfl
  · exact hQ s' hl
end
end Mine
set_option maxRecDepth 100000
namespace Mine
section
variable {prog : Program} {w : World} {A : Around} {env : Env} {base s : Shared} {mg mb : Str → Option Value} {aS : Addr} {vs : List Value} {L fa : Addr} {cd : Value} {ρ : Str → Option PV} {Y : Addr → Prop}
theorem eq_tst {l r : Expr} {pos : Pos} {a b : Int} (hl : Ev prog w A env s Y l (fun K => Rp K (.int a))) (hr : Ev prog w A env s Y r (fun K => Rp K (.int b))) (hm : behindInMarks .Eq r = false) : Tst prog w A env s (.Compare l [.Eq] [r] pos) (a == b) :=
  tst_cmp hl hr (fun K va vb s' E Q _ ha hb hQ => by
    obtain ⟨t, rfl⟩ := ha.inv_int
    obtain ⟨u, rfl⟩ := hb.inv_int
    exact PyProof.Rows.eq_int (hQ s' (kp_refl _))) hm
def pickL (M : Nat) (b : Nat) : List Nat := (List.range 8).filter fun k => bt M k == b
def pickPV (M b : Nat) : PV := .list ((pickL M b).map (totPV M))
def r11 (aS : Addr) (vs : List Value) : Str → Option PV := set (r10 aS vs) (Str.ofString "inside") (pickPV (mM vs) 1)
def r12 (aS : Addr) (vs : List Value) : Str → Option PV := set (r11 aS vs) (Str.ofString "outside") (pickPV (mM vs) 0)
theorem mem_get (M : Nat) {k : Nat} (hk : k < 8) : ((List.range 8).map fun k => PV.int (bt M k : Nat))[((k : Nat) : Int).toNat]? = some (.int (bt M k : Nat)) := by
  match k, hk with
  | 0, _ | 1, _ | 2, _ | 3, _ | 4, _ | 5, _ | 6, _ | 7, _ => kernel_rfl
theorem tot_get (M : Nat) {k : Nat} (hk : k < 8) : ((List.range 8).map (totPV M))[((k : Nat) : Int).toNat]? = some (totPV M k) := by
  match k, hk with
  | 0, _ | 1, _ | 2, _ | 3, _ | 4, _ | 5, _ | 6, _ | 7, _ => kernel_rfl
set_option maxHeartbeats 4000000 in
theorem law11 (X : Ctx prog w A env base mg mb aS vs L fa cd) (h : LW env base (r10 aS vs) s) {E : Value → Shared → Prop} {Q : Flow → Shared → Prop}
    (hQ : ∀ s', LW env base (r11 aS vs) s' → wpAny (model prog w) A (execs (lawB.drop 12) env) Q E s') :
    wpAny (model prog w) A (execs (lawB.drop 11) env) Q E s := by
  have hE := X.hE
  have kC : env.kindOf (Str.ofString "members") = some .cell := by subst hE; kernel_rfl
  have cC : env.cells.lookup (Str.ofString "members") = some (L + 5) := by subst hE; kernel_rfl
  have kT : env.kindOf (Str.ofString "totals") = some .cell := by subst hE; kernel_rfl
  have cT : env.cells.lookup (Str.ofString "totals") = some (L + 9) := by subst hE; kernel_rfl
  have vC := h.var (x := Str.ofString "members") (pv := .list ((List.range 8).map fun k => PV.int (bt (mM vs) k : Nat))) (.inr ⟨kC, by rw [cC]; rfl⟩) (by kernel_rfl)
  have vT := h.var (x := Str.ofString "totals") (pv := .list ((List.range 8).map (totPV (mM vs)))) (.inr ⟨kT, by rw [cT]; rfl⟩) (by kernel_rfl)
  have G := X.glb h
  show wpAny _ _ (execs (_ :: _) _) _ _ _
  with_reducible refine ex_comp (cl := [(Str.ofString "totals", L + 9), (Str.ofString "members", L + 5)]) (l := (List.range 8).map fun (i : Nat) => PV.int i) X.FA h (fun _ h => h.elim) X.hh (by subst hE; kernel_rfl) (by subst hE; kernel_rfl) (by subst hE; kernel_rfl) (by kernel_rfl) (by decide +kernel) (ev_range X.kf (by subst hE; kernel_rfl) G (n := 8) X.B.range.1 X.B.range.2 (ev_intN rfl) (by decide) (se_const ..) (by decide +kernel)) (by decide) ?_ (fun k => bt (mM vs) k == 1) (fun k => totPV (mM vs) k) (fun C i pv v s₃ T Y' hY hY' hi hr hsl k₃ => ?_) (by intro _; kernel_rfl) (fun s' hl => ?_)
  · left
    subst hE
    exact ⟨fun _ _ => by kernel_rfl, fun _ => by kernel_rfl, by kernel_rfl⟩
  · obtain ⟨hi8, rfl⟩ := range_get hi
    generalize hCe : compEnvC _ _ C env = ce at hsl ⊢
    have kf : ce.scope.kind = .function := by subst hCe hE; kernel_rfl
    have vk := hsl.var hr
    have vC3 : VarIs ce s₃ Y' (Str.ofString "members") (.list ((List.range 8).map fun k => PV.int (bt (mM vs) k : Nat))) := in_var vC k₃ hY kC cC (by subst hCe hE; kernel_rfl) (by subst hCe hE; kernel_rfl)
    have vT3 : VarIs ce s₃ Y' (Str.ofString "totals") (.list ((List.range 8).map (totPV (mM vs)))) := in_var vT k₃ hY kT cT (by subst hCe hE; kernel_rfl) (by subst hCe hE; kernel_rfl)
    refine ⟨?_, fun _ => ?_⟩
    · have e : (bt (mM vs) i == 1) = (((bt (mM vs) i : Nat) : Int) == 1) := by
        rw [Bool.eq_iff_iff, beq_iff_eq, beq_iff_eq]; omega
      rw [e]
      with_reducible exact tsts_one (eq_tst (ev_item (ev_var kf vC3 (by decide +kernel) (by decide +kernel)) (ev_var kf vk (by decide +kernel) (by decide +kernel)) (by omega) (mem_get _ hi8) (sz_le 8 (by kernel_rfl) (by decide))) ev_int (by kernel_rfl))
    · with_reducible exact ev_item (ev_var kf vT3 (by decide +kernel) (by decide +kernel)) (ev_var kf vk (by decide +kernel) (by decide +kernel)) (by omega) (tot_get _ hi8) (sz_le 8 (by kernel_rfl) (by decide))
  · exact hQ s' hl
set_option maxHeartbeats 4000000 in
theorem law12 (X : Ctx prog w A env base mg mb aS vs L fa cd) (h : LW env base (r11 aS vs) s) {E : Value → Shared → Prop} {Q : Flow → Shared → Prop}
    (hQ : ∀ s', LW env base (r12 aS vs) s' → wpAny (model prog w) A (execs (lawB.drop 13) env) Q E s') :
    wpAny (model prog w) A (execs (lawB.drop 12) env) Q E s := by
  have hE := X.hE
  have kC : env.kindOf (Str.ofString "members") = some .cell := by subst hE; kernel_rfl
  have cC : env.cells.lookup (Str.ofString "members") = some (L + 5) := by subst hE; kernel_rfl
  have kT : env.kindOf (Str.ofString "totals") = some .cell := by subst hE; kernel_rfl
  have cT : env.cells.lookup (Str.ofString "totals") = some (L + 9) := by subst hE; kernel_rfl
  have vC := h.var (x := Str.ofString "members") (pv := .list ((List.range 8).map fun k => PV.int (bt (mM vs) k : Nat))) (.inr ⟨kC, by rw [cC]; rfl⟩) (by kernel_rfl)
  have vT := h.var (x := Str.ofString "totals") (pv := .list ((List.range 8).map (totPV (mM vs)))) (.inr ⟨kT, by rw [cT]; rfl⟩) (by kernel_rfl)
  have G := X.glb h
  show wpAny _ _ (execs (_ :: _) _) _ _ _
  with_reducible refine ex_comp (cl := [(Str.ofString "totals", L + 9), (Str.ofString "members", L + 5)]) (l := (List.range 8).map fun (i : Nat) => PV.int i) X.FA h (fun _ h => h.elim) X.hh (by subst hE; kernel_rfl) (by subst hE; kernel_rfl) (by subst hE; kernel_rfl) (by kernel_rfl) (by decide +kernel) (ev_range X.kf (by subst hE; kernel_rfl) G (n := 8) X.B.range.1 X.B.range.2 (ev_intN rfl) (by decide) (se_const ..) (by decide +kernel)) (by decide) ?_ (fun k => bt (mM vs) k == 0) (fun k => totPV (mM vs) k) (fun C i pv v s₃ T Y' hY hY' hi hr hsl k₃ => ?_) (by intro _; kernel_rfl) (fun s' hl => ?_)
  · left
    subst hE
    exact ⟨fun _ _ => by kernel_rfl, fun _ => by kernel_rfl, by kernel_rfl⟩
  · obtain ⟨hi8, rfl⟩ := range_get hi
    generalize hCe : compEnvC _ _ C env = ce at hsl ⊢
    have kf : ce.scope.kind = .function := by subst hCe hE; kernel_rfl
    have vk := hsl.var hr
    have vC3 : VarIs ce s₃ Y' (Str.ofString "members") (.list ((List.range 8).map fun k => PV.int (bt (mM vs) k : Nat))) := in_var vC k₃ hY kC cC (by subst hCe hE; kernel_rfl) (by subst hCe hE; kernel_rfl)
    have vT3 : VarIs ce s₃ Y' (Str.ofString "totals") (.list ((List.range 8).map (totPV (mM vs)))) := in_var vT k₃ hY kT cT (by subst hCe hE; kernel_rfl) (by subst hCe hE; kernel_rfl)
    refine ⟨?_, fun _ => ?_⟩
    · have e : (bt (mM vs) i == 0) = (((bt (mM vs) i : Nat) : Int) == 0) := by
        rw [Bool.eq_iff_iff, beq_iff_eq, beq_iff_eq]; omega
      rw [e]
      with_reducible exact tsts_one (eq_tst (ev_item (ev_var kf vC3 (by decide +kernel) (by decide +kernel)) (ev_var kf vk (by decide +kernel) (by decide +kernel)) (by omega) (mem_get _ hi8) (sz_le 8 (by kernel_rfl) (by decide))) ev_int (by kernel_rfl))
    · with_reducible exact ev_item (ev_var kf vT3 (by decide +kernel) (by decide +kernel)) (ev_var kf vk (by decide +kernel) (by decide +kernel)) (by omega) (tot_get _ hi8) (sz_le 8 (by kernel_rfl) (by decide))
  · exact hQ s' hl
end
end Mine
set_option maxRecDepth 100000
namespace Mine
def NumZ (z : Int) (v : Value) : Prop := (∃ t, v = .int z t) ∨ (∃ t, v = .float (Float64.ofInt z) t)
theorem numz_ok (z : Int) : Post.Ok (fun _ v _ => NumZ z v) := fun _ _ _ _ _ x _ _ => x
theorem NumZ.num {z : Int} {v : Value} (h : NumZ z v) : Flt.NumV v := by
  rcases h with ⟨t, rfl⟩ | ⟨t, rfl⟩
  · exact .int ..
  · exact .float ..
theorem cmpInt_z {a n : Int} (ha : a.natAbs < 2 ^ 50) : Float64.cmpInt (Float64.ofInt a) n = some (compare a n) := by
  rw [ofInt_hf a (by omega)]
  obtain ⟨⟨m, e, hd⟩, hv⟩ := hf_dec (2 * a) (by omega)
  rw [Float64.cmpInt_right hd, hv]
  have e1 : n * 2 ^ 1074 = 2 * n * 2 ^ 1073 := by rw [Int.mul_comm 2 n, Int.mul_assoc, ← Int.pow_succ']
  rw [e1]
  have := pw
  generalize (2 : Int) ^ 1073 = p at *
  congr 1
  rcases Int.lt_trichotomy a n with h | h | h
  · rw [Int.compare_eq_lt.mpr h, Int.compare_eq_lt.mpr (Int.mul_lt_mul_of_pos_right (by omega) this)]
  · subst h; simp
  · rw [Int.compare_eq_gt.mpr h, Int.compare_eq_gt.mpr (Int.mul_lt_mul_of_pos_right (by omega) this)]
theorem cmp_z {a b : Int} (ha : a.natAbs < 2 ^ 50) (hb : b.natAbs < 2 ^ 50) : Float64.cmp (Float64.ofInt a) (Float64.ofInt b) = some (compare a b) := by
  rw [ofInt_hf a (by omega), ofInt_hf b (by omega), cmp_hf (by omega) (by omega)]
  congr 1
  rcases Int.lt_trichotomy a b with h | h | h
  · rw [Int.compare_eq_lt.mpr h, Int.compare_eq_lt.mpr (by omega)]
  · subst h; simp
  · rw [Int.compare_eq_gt.mpr h, Int.compare_eq_gt.mpr (by omega)]
theorem cmp_lt (a b : Int) : (some (compare a b) == some Ordering.lt) = decide (a < b) := by
  rcases Int.lt_trichotomy a b with h | h | h
  · rw [Int.compare_eq_lt.mpr h]; simp [h]
  · subst h; simp
  · rw [Int.compare_eq_gt.mpr h, decide_eq_false (by omega)]; rfl
theorem cmp_gt (a b : Int) : (some (compare a b) == some Ordering.gt) = decide (b < a) := by
  rcases Int.lt_trichotomy a b with h | h | h
  · rw [Int.compare_eq_lt.mpr h, decide_eq_false (by omega)]; rfl
  · subst h; simp
  · rw [Int.compare_eq_gt.mpr h]; simp [h]
theorem cmp_eq (a b : Int) : (some (compare a b) == some Ordering.eq) = (a == b) := by
  rcases Int.lt_trichotomy a b with h | h | h
  · have e : (a == b) = false := beq_false_of_ne (Int.ne_of_lt h)
    rw [Int.compare_eq_lt.mpr h, e]; rfl
  · subst h; simp
  · have e : (a == b) = false := beq_false_of_ne (Int.ne_of_gt h)
    rw [Int.compare_eq_gt.mpr h, e]; rfl
theorem ltV_z {a b : Int} {v u : Value} (ha : NumZ a v) (hb : NumZ b u) (za : a.natAbs < 2 ^ 50) (zb : b.natAbs < 2 ^ 50) : Flt.ltV v u = decide (a < b) := by
  rcases ha with ⟨t, rfl⟩ | ⟨t, rfl⟩ <;> rcases hb with ⟨t', rfl⟩ | ⟨t', rfl⟩ <;> unfold Flt.ltV <;> dsimp only
  · rw [cmpInt_z zb, cmp_gt]
  · rw [cmpInt_z za, cmp_lt]
  · rw [cmp_z za zb, cmp_lt]
theorem tz_small : ∀ M, M < 256 → ∀ k, k < 8 → (tz M k).natAbs < 1000 := by decide +kernel
theorem rp_num {K : Addr → Prop} {M k : Nat} {v : Value} {h : Heap} (hr : Rp K (totPV M k) v h) : NumZ (tz M k) v := by
  unfold totPV at hr
  split at hr
  · rename_i h0
    obtain ⟨t, rfl⟩ := hr.inv_int
    exact .inl ⟨t, by rw [h0]; rfl⟩
  · obtain ⟨t, rfl⟩ := hr.inv_flt
    exact .inr ⟨t, rfl⟩
def minZ (zs : List Int) : Int := zs.getD (argBest (fun i j => decide (zs.getD i 0 < zs.getD j 0)) (zs.length - 1)) 0
def maxZ (zs : List Int) : Int := zs.getD (argBest (fun i j => decide (zs.getD j 0 < zs.getD i 0)) (zs.length - 1)) 0
section
variable {prog : Program} {w : World} {A : Around} {env : Env} {base s : Shared} {mg mb : Str → Option Value} {aS : Addr} {vs : List Value} {L fa : Addr} {cd : Value} {ρ : Str → Option PV} {Y : Addr → Prop}
theorem num_at {K : Addr → Prop} {M : Nat} {h : Heap} : ∀ {l : List Nat} {its : List Value}, RpL K (l.map (totPV M)) its h → ∀ (i : Nat) (v : Value), its[i]? = some v → NumZ ((l.map (tz M)).getD i 0) v
  | [], _, x, i, v, e => by rw [List.map_nil] at x; rw [x.inv_nil] at e; simp at e
  | n :: l, _, x, 0, v, e => by
    rw [List.map_cons] at x
    obtain ⟨u, vs', rfl, h1, h2⟩ := x.inv
    simp at e; subst e
    simpa using rp_num h1
  | n :: l, _, x, i + 1, v, e => by
    rw [List.map_cons] at x
    obtain ⟨u, vs', rfl, h1, h2⟩ := x.inv
    simp at e
    have := num_at h2 i v e
    simpa using this
theorem small_at {M : Nat} (hM : M < 256) {l : List Nat} (hl : ∀ k ∈ l, k < 8) (i : Nat) : ((l.map (tz M)).getD i 0).natAbs < 1000 := by
  rw [List.getD_eq_getElem?_getD]
  cases h : (l.map (tz M))[i]? with
  | none => decide
  | some y =>
    obtain ⟨k, hk, rfl⟩ := List.mem_map.mp (List.mem_of_getElem? h)
    exact tz_small M hM k (hl k hk)
theorem min_cn (hh : A.handled = none) {M : Nat} (hM : M < 256) {l : List Nat} (hl : ∀ k ∈ l, k < 8) (hne : l ≠ []) : Cn prog w A s (.builtin "min") [.list (l.map (totPV M))] (fun _ v _ => NumZ (minZ (l.map (tz M))) v) := by
  intro K vs s' E Q k hr hQ
  obtain ⟨v, vs', rfl, hv, hr'⟩ := hr.inv
  cases hr'.inv_nil
  obtain ⟨a, its, rfl, _, hp, hL⟩ := hv.inv_list
  have hlen : its.length = l.length := by rw [hL.length, List.length_map]
  have hpos : 0 < l.length := List.length_pos_iff.mpr hne
  refine call_min_walk (list_it (A := A.in1) hh hp.isList fun h' W hst hfp up => ?_)
  refine ⟨_, _, _, _, _, _, fun i j => decide ((l.map (tz M)).getD i 0 < (l.map (tz M)).getD j 0), rfl, W, hst, hfp, by rw [List.size_toArray]; omega, ?_, fun v h'' tk hP hk => ?_⟩
  · intro i j vi vj s Q E hi hj hq
    have z1 := num_at hL i vi (by simpa using hi)
    have z2 := num_at hL j vj (by simpa using hj)
    have b1 := small_at hM hl i
    have b2 := small_at hM hl j
    refine Flt.lt_num z1.num z2.num ?_
    rw [ltV_z z1 z2 (by omega) (by omega)]
    exact hq
  · have := num_at hL _ v (by simpa only [List.getElem?_toArray] using hP)
    rw [List.size_toArray, hlen] at this
    refine hQ v _ (kp_mk (up_it up hk (Heap.get?_none_of_le (Nat.le_refl _)))) ?_
    unfold minZ
    rw [List.length_map]
    exact this
theorem max_cn (hh : A.handled = none) {M : Nat} (hM : M < 256) {l : List Nat} (hl : ∀ k ∈ l, k < 8) (hne : l ≠ []) : Cn prog w A s (.builtin "max") [.list (l.map (totPV M))] (fun _ v _ => NumZ (maxZ (l.map (tz M))) v) := by
  intro K vs s' E Q k hr hQ
  obtain ⟨v, vs', rfl, hv, hr'⟩ := hr.inv
  cases hr'.inv_nil
  obtain ⟨a, its, rfl, _, hp, hL⟩ := hv.inv_list
  have hlen : its.length = l.length := by rw [hL.length, List.length_map]
  have hpos : 0 < l.length := List.length_pos_iff.mpr hne
  refine call_max_walk (list_it (A := A.in1) hh hp.isList fun h' W hst hfp up => ?_)
  refine ⟨_, _, _, _, _, _, fun i j => decide ((l.map (tz M)).getD j 0 < (l.map (tz M)).getD i 0), rfl, W, hst, hfp, by rw [List.size_toArray]; omega, ?_, fun v h'' tk hP hk => ?_⟩
  · intro i j vi vj s Q E hi hj hq
    have z1 := num_at hL i vi (by simpa using hi)
    have z2 := num_at hL j vj (by simpa using hj)
    have b1 := small_at hM hl i
    have b2 := small_at hM hl j
    refine Flt.gt_num z1.num z2.num ?_
    rw [ltV_z z2 z1 (by omega) (by omega)]
    exact hq
  · have := num_at hL _ v (by simpa only [List.getElem?_toArray] using hP)
    rw [List.size_toArray, hlen] at this
    refine hQ v _ (kp_mk (up_it up hk (Heap.get?_none_of_le (Nat.le_refl _)))) ?_
    unfold maxZ
    rw [List.length_map]
    exact this
theorem best_small {M : Nat} (hM : M < 256) {l : List Nat} (hl : ∀ k ∈ l, k < 8) : (minZ (l.map (tz M))).natAbs < 1000 ∧ (maxZ (l.map (tz M))).natAbs < 1000 := ⟨small_at hM hl _, small_at hM hl _⟩
theorem pick_lt {M b : Nat} : ∀ k ∈ pickL M b, k < 8 := fun k hk => by unfold pickL at hk; simpa using (List.mem_filter.mp hk).1
theorem pick_ne : ∀ M, M < 256 → szM M ≠ 0 → szM M ≠ 8 → pickL M 1 ≠ [] ∧ pickL M 0 ≠ [] := by decide +kernel
def voteB (M : Nat) : Bool := (szM M == 0 || szM M == 8) || decide (maxZ ((pickL M 0).map (tz M)) < minZ ((pickL M 1).map (tz M)))
def r13 (aS : Addr) (vs : List Value) : Str → Option PV := set (r12 aS vs) (Str.ofString "vote") (.bool (voteB (mM vs)))
theorem ev_inTup {l : Expr} {es : List Expr} {k : Nat} {tp pos : Pos} {a b c : Int} (hl : Ev prog w A env s Y l (fun K => Rp K (.int c))) (hr : EvL prog w A env s Y tp es [.int a, .int b]) (hm : behindInMarks .In (.Tuple es k tp) = false) :
    Ev prog w A env s Y (.Compare l [.In] [.Tuple es k tp] pos) (fun K => Rp K (.bool (a == c || b == c))) := by
  intro s' E Q k' hQ
  refine wpAny_Compare1 (hl s' E _ k' fun va s₁ k₁ h₁ => wpAny_Tuple (hr s₁ E _ (kp_trans k' k₁) fun vs s₂ k₂ h₂ => ⟨by rw [h₂.length]; show 2 ≤ sizeLine; decide, ?_⟩)) hm
  obtain ⟨t, rfl⟩ := h₁.inv_int
  obtain ⟨v1, r1, rfl, g1, h₂⟩ := h₂.inv
  obtain ⟨v2, r2, rfl, g2, h₂⟩ := h₂.inv
  cases h₂.inv_nil
  obtain ⟨t1, rfl⟩ := g1.inv_int
  obtain ⟨t2, rfl⟩ := g2.inv_int
  refine SeqAt.in_tupleAt (isInt c) (items := #[.int a t1, .int b t2]) ⟨_, Heap.get?_push_size _ rfl, rfl, _, rfl⟩ (fun y hy => ?_) ?_
  · rcases List.mem_cons.mp (by simpa using hy : y ∈ [Value.int a t1, Value.int b t2]) with rfl | hy
    · exact SeqAt.EqAt.int_int a t1 c t
    · rcases List.mem_cons.mp hy with rfl | hy
      · exact SeqAt.EqAt.int_int b t2 c t
      · cases hy
  · have e : (#[Value.int a t1, Value.int b t2] : Array Value).any (isInt c) = (a == c || b == c) := by simp [isInt]
    rw [e]
    exact hQ _ _ (kp_trans (kp_trans k₁ k₂) (kp_push _ _)) (rp_bool ..)
theorem ev_gtZ {l r : Expr} {pos : Pos} {a b : Int} (hl : Ev prog w A env s Y l (fun _ v _ => NumZ a v)) (hr : Ev prog w A env s Y r (fun _ v _ => NumZ b v)) (za : a.natAbs < 2 ^ 50) (zb : b.natAbs < 2 ^ 50) (hm : behindInMarks .Gt r = false) :
    Ev prog w A env s Y (.Compare l [.Gt] [r] pos) (fun K => Rp K (.bool (decide (b < a)))) := by
  intro s' E Q k' hQ
  refine wpAny_Compare1 (hl s' E _ k' fun va s₁ k₁ h₁ => hr s₁ E _ (kp_trans k' k₁) fun vb s₂ k₂ h₂ => ?_) hm
  refine Flt.gt_num h₁.num h₂.num ?_
  rw [ltV_z h₂ h₁ zb za]
  exact hQ _ _ (kp_trans k₁ k₂) (rp_bool ..)
theorem ev_or {x y : Expr} {pos : Pos} {a b : Bool} (hx : Ev prog w A env s Y x (fun K => Rp K (.bool a))) (hy : a = false → Ev prog w A env s Y y (fun K => Rp K (.bool b))) : Ev prog w A env s Y (.BoolOp .Or [x, y] pos) (fun K => Rp K (.bool (a || b))) := by
  intro s' E Q k' hQ
  refine wpAny_Or2 (hx s' E _ k' fun va s₁ k₁ h₁ => ?_)
  cases h₁.inv_bool
  refine wpAny_truthy_bool ?_
  cases a with
  | true => exact hQ _ _ k₁ (rp_bool ..)
  | false =>
    simp only [Bool.false_eq_true, if_false]
    exact hy rfl s₁ E Q (kp_trans k' k₁) fun v s₂ k₂ h₂ => hQ v s₂ (kp_trans k₁ k₂) (by rw [Bool.false_or]; exact h₂.mono fun a ha => Nw.of_keeps k₁ ha)
theorem ev_and2 {x y : Expr} {pos : Pos} {a b : Bool} (hx : Ev prog w A env s Y x (fun K => Rp K (.bool a))) (hy : a = true → Ev prog w A env s Y y (fun K => Rp K (.bool b))) : Ev prog w A env s Y (.BoolOp .And [x, y] pos) (fun K => Rp K (.bool (a && b))) := by
  intro s' E Q k' hQ
  refine wpAny_And2 (hx s' E _ k' fun va s₁ k₁ h₁ => ?_)
  cases h₁.inv_bool
  refine wpAny_truthy_bool ?_
  cases a with
  | false => exact hQ _ _ k₁ (rp_bool ..)
  | true =>
    simp only [if_true]
    exact hy rfl s₁ E Q (kp_trans k' k₁) fun v s₂ k₂ h₂ => hQ v s₂ (kp_trans k₁ k₂) (by rw [Bool.true_and]; exact h₂.mono fun a ha => Nw.of_keeps k₁ ha)
set_option maxHeartbeats 4000000 in
theorem law13 (X : Ctx prog w A env base mg mb aS vs L fa cd) (h : LW env base (r12 aS vs) s) {E : Value → Shared → Prop} {Q : Flow → Shared → Prop}
    (hQ : ∀ s', LW env base (r13 aS vs) s' → wpAny (model prog w) A (execs (lawB.drop 14) env) Q E s') :
    wpAny (model prog w) A (execs (lawB.drop 13) env) Q E s := by
  have hE := X.hE
  have kS : env.kindOf (Str.ofString "size") = some .cell := by subst hE; kernel_rfl
  have cS : env.cells.lookup (Str.ofString "size") = some (L + 6) := by subst hE; kernel_rfl
  have kI : env.kindOf (Str.ofString "inside") = some .local := by subst hE; kernel_rfl
  have kO : env.kindOf (Str.ofString "outside") = some .local := by subst hE; kernel_rfl
  have vS := h.var (x := Str.ofString "size") (pv := .int (szM (mM vs))) (.inr ⟨kS, by rw [cS]; rfl⟩) (by kernel_rfl)
  have vI := h.var (x := Str.ofString "inside") (pv := .list ((pickL (mM vs) 1).map (totPV (mM vs)))) (.inl kI) (by kernel_rfl)
  have vO := h.var (x := Str.ofString "outside") (pv := .list ((pickL (mM vs) 0).map (totPV (mM vs)))) (.inl kO) (by kernel_rfl)
  have G := X.glb h
  have hM := mM_lt vs
  show wpAny _ _ (execs (_ :: _) _) _ _ _
  with_reducible refine ex_assign (pv := .bool (voteB (mM vs))) X.FA h (.inl (by subst hE; kernel_rfl)) ?_ (by subst hE; kernel_rfl) (fun s' hl => ?_)
  · have e : voteB (mM vs) = (((0 : Int) == (szM (mM vs) : Int) || (8 : Int) == (szM (mM vs) : Int)) || decide (maxZ ((pickL (mM vs) 0).map (tz (mM vs))) < minZ ((pickL (mM vs) 1).map (tz (mM vs))))) := by
      unfold voteB
      congr 1
      congr 1
      · rw [Bool.eq_iff_iff, beq_iff_eq, beq_iff_eq]; omega
      · rw [Bool.eq_iff_iff, beq_iff_eq, beq_iff_eq]; omega
    rw [e]
    with_reducible refine ev_or (ev_inTup (ev_var X.kf vS (by decide +kernel) (by decide +kernel)) (evl_cons ev_int (evl_cons ev_int evl_nil)) (by kernel_rfl)) fun hc => ?_
    have h08 : szM (mM vs) ≠ 0 ∧ szM (mM vs) ≠ 8 := by
      rw [Bool.or_eq_false_iff] at hc
      have h1 := ne_of_beq_false hc.1
      have h2 := ne_of_beq_false hc.2
      omega
    obtain ⟨n1, n0⟩ := pick_ne _ hM h08.1 h08.2
    have b1 := (best_small hM (l := pickL (mM vs) 1) pick_lt).1
    have b0 := (best_small hM (l := pickL (mM vs) 0) pick_lt).2
    with_reducible exact ev_gtZ (ev_call_b X.kf (by subst hE; kernel_rfl) G X.B.min.1 X.B.min.2 (evl_cons (ev_var X.kf vI (by decide +kernel) (by decide +kernel)) evl_nil) (min_cn X.hh hM pick_lt n1) (numz_ok _) (by decide +kernel) (sh1 (se_name ..)).1 (sh1 (se_name ..)).2) (ev_call_b X.kf (by subst hE; kernel_rfl) G X.B.max.1 X.B.max.2 (evl_cons (ev_var X.kf vO (by decide +kernel) (by decide +kernel)) evl_nil) (max_cn X.hh hM pick_lt n0) (numz_ok _) (by decide +kernel) (sh1 (se_name ..)).1 (sh1 (se_name ..)).2) (by omega) (by omega) (by kernel_rfl)
  · exact hQ s' hl
end
end Mine
set_option maxRecDepth 100000
namespace Mine
section
variable {prog : Program} {w : World} {A : Around} {env : Env} {base s : Shared} {Sm : Array GenState → Drawn → OsState → Prop} {ρ : Str → Option PV} {Zp : Heap → Prop}
def OffH (env : Env) (h h' : Heap) : Prop := ∀ b o, b ≠ env.locals → (∀ x c, env.cells.lookup x = some c → b ≠ c) → h.get? b = some o → h'.get? b = some o
/-- a frame, and something of the heap that the frame does not touch -/
structure LZ (env : Env) (base : Shared) (Sm : Array GenState → Drawn → OsState → Prop) (Zp : Heap → Prop) (ρ : Str → Option PV) (s : Shared) : Prop where
  ls : LS env base (fun _ => False) Sm (fun _ => False) ρ s
  z : Zp s.heap
  zok : ∀ h h', Zp h → OffH env h h' → Zp h'
theorem LZ.keeps {s' : Shared} (h : LZ env base Sm Zp ρ s) (k : Keeps s s') : LZ env base Sm Zp ρ s' := ⟨h.ls.keeps k, h.zok _ _ h.z fun b o _ _ e => kp_up k b o e, h.zok⟩
theorem LZ.store {x : Str} {pv : PV} {v : Value} {K : Addr → Prop} {E : Value → Shared → Prop} {Q : Unit → Shared → Prop} (F : FrameAt env base) (h : LZ env base Sm Zp ρ s) (hr : Rp K pv v s.heap)
    (hk : env.kindOf x = some .local ∨ (env.kindOf x = some .cell ∧ (env.cells.lookup x).isSome = true)) (hQ : ∀ s', LZ env base Sm Zp (set ρ x pv) s' → Q () s') : wpAny (model prog w) A (storeName env x v) Q E s :=
  LS.store F h.ls hr (fun _ _ h => h) hk fun s' hl ho => hQ s' ⟨hl, h.zok _ _ h.z ho, h.zok⟩
theorem LZ.assign {x : Str} {px pos : Pos} {e : Expr} {rest : List Stmt} {pv : PV} {E : Value → Shared → Prop} {Q : Flow → Shared → Prop} (F : FrameAt env base) (h : LZ env base Sm Zp ρ s)
    (hk : env.kindOf x = some .local ∨ (env.kindOf x = some .cell ∧ (env.cells.lookup x).isSome = true)) (he : Ev prog w A env s (Kn (fun _ => False) s) e (fun K => Rp K pv))
    (hs : swapsWith e (some (.Name x px)) pos.line env = pure false) (hQ : ∀ s', LZ env base Sm Zp (set ρ x pv) s' → wpAny (model prog w) A (execs rest env) Q E s') : wpAny (model prog w) A (execs (.Assign [.Name x px] e pos :: rest) env) Q E s :=
  wpAny_execs_cons (wpAny_Assign_Name (he s E _ (kp_refl _) fun v s₁ k₁ hr => LZ.store F (h.keeps k₁) hr hk fun s' hl => hQ s' hl) hs)
theorem LZ.step {Zp' : Heap → Prop} {wr : List Addr} {h' : Heap} {tk : Nat} (h : LZ env base Sm Zp ρ s) (hwr : ∀ b ∈ wr, (base.heap.get? b = none) ∧ ∃ o vs, s.heap.get? b = some o ∧ o.data = .fields vs)
    (hk : ∀ b o, b ∉ wr → s.heap.get? b = some o → h'.get? b = some o) (hz : Zp' h') (hzk : ∀ h h', Zp' h → OffH env h h' → Zp' h') : LZ env base Sm Zp' ρ { s with heap := h', toks := tk } := by
  have nl : ∀ b its, s.heap.PlainList b its → b ∉ wr := fun b its ⟨n, e⟩ hb => by
    obtain ⟨_, o, vs, e', hd⟩ := hwr b hb
    rw [e] at e'; cases e'; cases hd
  have hside : ∀ {p : PV} {v : Value}, Rp (Kn (fun _ => False) s) p v s.heap → Rp (Kn (fun _ => False) { s with heap := h', toks := tk }) p v h' := fun x =>
    x.on fun b its hb hp => ⟨⟨by obtain ⟨n, e⟩ := id hp; show Option.isSome _ = true; rw [hk b _ (nl b its hp) e]; rfl, hb.2⟩, let ⟨n, e⟩ := id hp; ⟨n, hk b _ (nl b its hp) e⟩⟩
  refine ⟨⟨fun _ h => h.elim, h.ls.same, ?_, ?_, ?_⟩, hz, hzk⟩
  · exact fun b o e hb => hk b o (fun hm => by rw [(hwr b hm).1] at e; cases e) (h.ls.keep b o e hb)
  · obtain ⟨m, hn, hm⟩ := h.ls.ns
    refine ⟨m, hn.at' fun o e => hk _ _ (fun hm => ?_) e, fun y hy q e => let ⟨v, h1, h2⟩ := hm y hy q e; ⟨v, h1, hside h2⟩⟩
    obtain ⟨_, o', vs, e', hd'⟩ := hwr _ hm
    obtain ⟨o, es, ep, ho, hd, _⟩ := hn
    rw [ho] at e'; cases e'; rw [hd] at hd'; cases hd'
  · intro y c hc
    obtain ⟨ov, ⟨o, ho, hd⟩, hv⟩ := h.ls.cells y c hc
    refine ⟨ov, ⟨o, hk _ _ (fun hm => ?_) ho, hd⟩, fun q eq => let ⟨v, h1, h2⟩ := hv q eq; ⟨v, h1, hside h2⟩⟩
    obtain ⟨_, o', vs, e', hd'⟩ := hwr _ hm
    rw [ho] at e'; cases e'; rw [hd] at hd'; cases hd'
theorem LZ.loop {x : Str} {px pos : Pos} {iter : Expr} {body orelse : List Stmt} {items : List PV} {E : Value → Shared → Prop} {RR : Flow → Shared → Prop}
    (F : FrameAt env base) (h : LS env base (fun _ => False) Sm (fun _ => False) ρ s) (hh : A.handled = none) (hk : env.kindOf x = some .local)
    (hit : Ev prog w A env s (Kn (fun _ => False) s) iter (IterOf items)) (hint : ∀ (i : Nat) (pv : PV), items[i]? = some pv → ∃ k, pv = PV.int k) (Inv : Nat → (Str → Option PV) → Prop) (h0 : Inv 0 ρ)
    (hturn : ∀ i pv ρ (Zp' : Heap → Prop) s (E' : Value → Shared → Prop), items[i]? = some pv → Inv i ρ → LZ env base Sm Zp' (set ρ x pv) s →
      wpAny (model prog w) A (execs body env) (fun f s' => match f with | .next | .cont => ∃ ρ', Inv (i + 1) ρ' ∧ LZ env base Sm Zp' ρ' s' | .brk => RR .next s' | .ret v => RR (.ret v) s') E' s)
    (hdone : ∀ ρ s (E' : Value → Shared → Prop), Inv items.length ρ → LS env base (fun _ => False) Sm (fun _ => False) ρ s → wpAny (model prog w) A (execs orelse env) (fun f s' => RR f s') E' s)
    (hs : ∀ x, foldedSetIterable iter env x = pure x) :
    wpAny (model prog w) A (exec (.For (.Name x px) iter body orelse pos) env) RR E s := by
  refine wpAny_For (hit s E _ (kp_refl _) fun xv s₁ k₁ hi => ?_) hs
  have h₁ := h.keeps k₁
  refine iter_walk hh hi fun I fp wr P St h₂ W hst hfp hwr hwrS hfpK up₂ hP => ?_
  have h₂' : LS env base (fun _ => False) Sm (fun _ => False) ρ { s₁ with heap := h₂ } := h₁.keeps ⟨h₂, s₁.toks, rfl, up₂⟩
  have offF : ∀ b ∈ fp, b ≠ env.locals ∧ (∀ x c, env.cells.lookup x = some c → b ≠ c) := by
    intro b hb
    obtain ⟨m, ⟨o, es, ep, ho, hd, _⟩, _⟩ := h₁.ns
    rcases hfpK b hb with hn | ⟨hK, its', ⟨n', eb⟩⟩
    · refine ⟨?_, ?_⟩
      · rintro rfl; rw [ho] at hn; cases hn
      · rintro x c hc rfl
        obtain ⟨ov, ⟨o', ho', _⟩, _⟩ := h₁.cells x b hc
        rw [ho'] at hn; cases hn
    · refine ⟨?_, ?_⟩
      · rintro rfl; rw [eb] at ho; cases ho; cases hd
      · rintro x c hc rfl
        obtain ⟨ov, ⟨o', ho', hd'⟩, _⟩ := h₁.cells x b hc
        rw [eb] at ho'; cases ho'; cases hd'
  have wrBase : ∀ b ∈ wr, base.heap.get? b = none := fun b hb => by
    cases e : base.heap.get? b with
    | none => rfl
    | some o =>
      have hn := hwr b hb
      rw [h₁.keep b o e (fun x => x)] at hn; cases hn
  have zk : ∀ i, ∀ h h', St i h → OffH env h h' → St i h' := fun i h h' hz ho => W.frame _ _ _ hz fun b hb o e => ho b o (offF b hb).1 (offF b hb).2 e
  refine codeAny_forLoop (fun n s' => ∃ i ρ, n = items.length + 1 - i ∧ i ≤ items.length ∧ Inv i ρ ∧ LZ env base Sm (St i) ρ s') ?_ (items.length + 1)
    ⟨0, ρ, rfl, Nat.zero_le _, h0, h₂', hst, zk 0⟩
  rintro n s' ⟨i, ρ, rfl, hin, hI, hL⟩
  have hw : ∀ b ∈ wr, (base.heap.get? b = none) ∧ ∃ o vs, s'.heap.get? b = some o ∧ o.data = .fields vs := fun b hb => ⟨wrBase b hb, hwrS i _ hL.z b hb⟩
  by_cases hlt : i < items.length
  · refine W.item i _ _ _ hlt hL.z fun v h₃ tk₃ hPv hst₃ hk₃ => ?_
    have L₃ : LZ env base Sm (St (i + 1)) ρ { s' with heap := h₃, toks := tk₃ } := hL.step hw hk₃ hst₃ (zk (i + 1))
    dsimp only
    refine wpAny_assign_Name ?_
    obtain ⟨pv, hpv, hr⟩ := hP i v h₂ hlt hPv up₂
    obtain ⟨k, rfl⟩ := hint i pv hpv
    obtain ⟨t, rfl⟩ := hr.inv_int
    refine LZ.store (K := fun _ => True) F L₃ (rp_int ..) (.inl hk) fun s₄ L₄ => ?_
    refine wpAny_mono (hturn i _ ρ _ s₄ _ hpv hI L₄) (fun f s₅ hf => ?_) (fun _ _ e => e)
    cases f with
    | next => obtain ⟨ρ', hI', hL'⟩ := hf; exact ⟨items.length + 1 - (i + 1), by omega, i + 1, ρ', rfl, hlt, hI', hL'⟩
    | cont => obtain ⟨ρ', hI', hL'⟩ := hf; exact ⟨items.length + 1 - (i + 1), by omega, i + 1, ρ', rfl, hlt, hI', hL'⟩
    | brk => exact hf
    | ret v => exact hf
  · have hi' : i = items.length := by omega
    subst hi'
    refine W.done _ _ _ hL.z fun h₃ tk₃ hk₃ => ?_
    exact hdone ρ _ _ hI (hL.step (Zp' := fun _ => True) hw hk₃ trivial fun _ _ _ _ => trivial).ls
end
end Mine
set_option maxRecDepth 100000
namespace Mine
section
variable {prog : Program} {w : World} {A : Around} {env : Env} {base s : Shared} {mg mb : Str → Option Value} {aS : Addr} {vs : List Value} {L fa : Addr} {cd : Value} {ρ : Str → Option PV} {Y : Addr → Prop}
def markZ (k : Nat) : Int := 1 + 10 * Builtin.bitAnd (k : Int) 1 + 100 * Builtin.bitAnd ((k : Int).fdiv (2 ^ (1 : Int).toNat)) 1 + 1000 * (k : Int).fdiv (2 ^ (2 : Int).toNat)
def marksZ : Nat → List Int
  | 0 => [0]
  | k + 1 => marksZ k ++ (marksZ k).map (· + markZ k)
theorem marks_len : ∀ k, k ≤ 8 → (marksZ k).length = 2 ^ k := by decide +kernel
theorem marks_le : ∀ k, k ≤ 8 → (marksZ k).length ≤ 256 := by decide +kernel
theorem map_range (l : List Int) (d : Int) : (((List.range (l.map PV.int).length).filter fun _ => true).map fun j => PV.int (l.getD j 0 + d)) = (l.map (· + d)).map PV.int := by
  rw [List.filter_eq_self.mpr (fun _ _ => rfl), List.length_map]
  apply List.ext_getElem
  · simp
  · intro i h1 h2
    simp only [List.length_map, List.length_range] at h1
    simp [List.getD_eq_getElem?_getD, h1]
def r14 (aS : Addr) (vs : List Value) : Str → Option PV := set (r13 aS vs) (Str.ofString "marks") (.list ((marksZ 8).map PV.int))
set_option maxHeartbeats 4000000 in
theorem law14 (X : Ctx prog w A env base mg mb aS vs L fa cd) (h : LW env base (r13 aS vs) s) {E : Value → Shared → Prop} {Q : Flow → Shared → Prop}
    (hQ : ∀ s', LW env base (r14 aS vs) s' → wpAny (model prog w) A (execs (lawB.drop 16) env) Q E s') :
    wpAny (model prog w) A (execs (lawB.drop 14) env) Q E s := by
  have hE := X.hE
  have kM : env.kindOf (Str.ofString "marks") = some .local := by subst hE; kernel_rfl
  have kK : env.kindOf (Str.ofString "k") = some .local := by subst hE; kernel_rfl
  have kA : env.kindOf (Str.ofString "mark") = some .cell := by subst hE; kernel_rfl
  have cA : env.cells.lookup (Str.ofString "mark") = some (L + 10) := by subst hE; kernel_rfl
  have ne1 : Str.ofString "marks" ≠ Str.ofString "k" := by decide +kernel
  have ne2 : Str.ofString "k" ≠ Str.ofString "mark" := by decide +kernel
  have ne3 : Str.ofString "marks" ≠ Str.ofString "mark" := by decide +kernel
  show wpAny _ _ (execs (_ :: _) _) _ _ _
  with_reducible refine ex_assign (pv := .list ((marksZ 0).map PV.int)) X.FA h (.inl kM) ?_ (by subst hE; kernel_rfl) (fun s₁ h₁ => ?_)
  · show Ev prog w A env s _ (.List [.Constant _ _ _] _) (fun K => Rp K (.list [.int 0]))
    with_reducible exact ev_list (evl_cons ev_int evl_nil) (by decide)
  refine wpAny_execs_cons ?_
  refine wpAny_mono (Q := fun f s' => f = .next ∧ LW env base (r14 aS vs) s') ?_ (fun f s₂ hf => ?_) (fun _ _ e => e)
  · have G1 := X.glb h₁
    with_reducible refine LZ.loop X.FA h₁ X.hh kK (ev_range X.kf (by subst hE; kernel_rfl) G1 (n := 8) X.B.range.1 X.B.range.2 (ev_intN rfl) (by decide) (se_const ..) (by decide +kernel)) (fun i pv e => ?_) (fun i ρ => ρ (Str.ofString "marks") = some (.list ((marksZ i).map PV.int)) ∧ ∀ y, y ≠ Str.ofString "k" → y ≠ Str.ofString "mark" → y ≠ Str.ofString "marks" → ρ y = r13 aS vs y) ⟨set_eq, fun y _ _ h3 => set_ne h3⟩ ?_ ?_ (by intro _; kernel_rfl)
    · obtain ⟨_, rfl⟩ := range_get e
      exact ⟨_, rfl⟩
    · intro i pv ρ Zp' s₃ E' hi hI hL
      obtain ⟨hM, hρ⟩ := hI
      obtain ⟨hi8, rfl⟩ := range_get hi
      have vk := hL.ls.var (x := Str.ofString "k") (pv := .int i) (.inl kK) set_eq
      have ek : ∀ pos, Ev prog w A env s₃ (Kn (fun _ => False) s₃) (.Name (Str.ofString "k") pos) (fun K => Rp K (.int i)) := fun pos => ev_var X.kf vk (by decide +kernel) (by decide +kernel)
      with_reducible refine LZ.assign (pv := .int (markZ i)) X.FA hL (.inr ⟨kA, by rw [cA]; kernel_rfl⟩) ?_ (by subst hE; kernel_rfl) fun s₄ h₄ => ?_
      · unfold markZ
        with_reducible exact ev_add (ev_add (ev_add ev_int (ev_mul ev_int (ev_and (ek _) ev_int) (.of_left (by decide)))) (ev_mul ev_int (ev_and (ev_shr (ek _) ev_int (by decide)) ev_int) (.of_left (by decide)))) (ev_mul ev_int (ev_shr (ek _) ev_int (by decide)) (.of_left (by decide)))
      have hM4 : set (set ρ (Str.ofString "k") (PV.int i)) (Str.ofString "mark") (PV.int (markZ i)) (Str.ofString "marks") = some (.list ((marksZ i).map PV.int)) := by rw [set_ne ne3, set_ne ne1]; exact hM
      have vM := h₄.ls.var (x := Str.ofString "marks") (pv := .list ((marksZ i).map PV.int)) (.inl kM) hM4
      have vA := h₄.ls.var (x := Str.ofString "mark") (pv := .int (markZ i)) (.inr ⟨kA, by rw [cA]; rfl⟩) set_eq
      have hlen := marks_le i (by omega)
      have hlen' : ((marksZ i).map PV.int).length ≤ sizeLine := by rw [List.length_map, sizeLine_eq]; omega
      with_reducible refine LZ.assign (pv := .list ((marksZ i).map PV.int ++ ((marksZ i).map (· + markZ i)).map PV.int)) X.FA h₄ (.inl kM) ?_ (by subst hE; kernel_rfl) fun s₅ h₅ => ?_
      · with_reducible refine ev_cat (ev_var X.kf vM (by decide +kernel) (by decide +kernel)) ?_ (by rw [List.length_map, List.length_map, List.length_map, sizeLine_eq]; omega)
        with_reducible refine ev_compE (cl := [(Str.ofString "mark", L + 10)]) (l := (marksZ i).map PV.int) X.hh (by subst hE; kernel_rfl) (by kernel_rfl) (by decide +kernel) kn_dm ((ev_var X.kf vM (by decide +kernel) (by decide +kernel)).imp fun _ _ _ h => IterOf.ofL h) hlen' ?_ (fun _ => true) (fun j => .int ((marksZ i).getD j 0 + markZ i)) (fun C j pv v s₆ T Y' hY hY' hj hr hsl k₆ => ⟨tsts_nil, fun _ => ?_⟩) (by intro _; kernel_rfl) (by rw [map_range])
        · left
          subst hE
          exact ⟨fun _ _ => by kernel_rfl, fun _ => by kernel_rfl, by kernel_rfl⟩
        · obtain ⟨n, hn, rfl⟩ := int_get hj
          have e : (marksZ i).getD j 0 = n := by rw [List.getD_eq_getElem?_getD, hn]; rfl
          rw [e]
          generalize hCe : compEnvC _ _ C env = ce at hsl ⊢
          have kf : ce.scope.kind = .function := by subst hCe hE; kernel_rfl
          have vo := hsl.var hr
          have vA6 : VarIs ce s₆ Y' (Str.ofString "mark") (.int (markZ i)) := in_var vA k₆ hY kA cA (by subst hCe hE; kernel_rfl) (by subst hCe hE; kernel_rfl)
          with_reducible exact ev_add (ev_var kf vo (by decide +kernel) (by decide +kernel)) (ev_var kf vA6 (by decide +kernel) (by decide +kernel))
      · refine wpAny_execs_nil ⟨_, ⟨?_, fun y h1 h2 h3 => ?_⟩, h₅⟩
        · rw [set_eq, ← List.map_append]; rfl
        · rw [set_ne h3, set_ne h2, set_ne h1]; exact hρ y h1 h2 h3
    · intro ρ s₃ E' hI hL
      obtain ⟨hM, hρ⟩ := hI
      refine wpAny_execs_nil ⟨rfl, ?_⟩
      refine hL.sub fun y pv e => ?_
      by_cases hy : y = Str.ofString "marks"
      · subst hy
        rw [r14, set_eq] at e
        have e8 : ((List.range 8).map fun (i : Nat) => PV.int i).length = 8 := by simp
        rw [e8] at hM
        rw [hM]; exact e
      · rw [r14, set_ne hy] at e
        by_cases h1 : y = Str.ofString "k"
        · subst h1
          rw [show r13 aS vs (Str.ofString "k") = none by kernel_rfl] at e; cases e
        · by_cases h2 : y = Str.ofString "mark"
          · subst h2
            rw [show r13 aS vs (Str.ofString "mark") = none by kernel_rfl] at e; cases e
          · rw [hρ y h1 h2 hy]; exact e
  · obtain ⟨rfl, hL⟩ := hf
    exact hQ s₂ hL
end
end Mine
set_option maxRecDepth 100000
namespace Mine
section
variable {prog : Program} {w : World} {A : Around} {env : Env} {base s : Shared} {mg mb : Str → Option Value} {aS : Addr} {vs : List Value} {L fa : Addr} {cd : Value} {ρ : Str → Option PV} {Y : Addr → Prop}
theorem rpl_intsAre {K : Addr → Prop} : ∀ {l : List Int} {vs : List Value} {h : Heap}, RpL K (l.map PV.int) vs h → IntsAre vs l
  | [], _, _, x => by rw [List.map_nil] at x; rw [x.inv_nil]; exact .nil
  | _ :: _, _, _, x => by
    rw [List.map_cons] at x
    obtain ⟨v, vs', rfl, h1, h2⟩ := x.inv
    obtain ⟨t, rfl⟩ := h1.inv_int
    exact .cons _ _ (rpl_intsAre h2)
theorem countI_cn (x : Int) (l : List Int) : Cn prog w A s (.builtin "list.count") [.list (l.map PV.int), .int x] (fun K => Rp K (.int ((l.count x : Nat) : Int))) := by
  intro K vs' s' E Q k hr hQ
  obtain ⟨v, vs', rfl, hv, hr'⟩ := hr.inv
  obtain ⟨v2, vs2, rfl, hv2, hr2⟩ := hr'.inv
  cases hr2.inv_nil
  obtain ⟨a, its, rfl, _, hp, hL⟩ := hv.inv_list
  obtain ⟨u, rfl⟩ := hv2.inv_int
  exact count_list_ints hp.isList (rpl_intsAre hL) (hQ _ _ (kp_tok _ _) (rp_int ..))
theorem ev_eqI {l r : Expr} {pos : Pos} {a b : Int} (hl : Ev prog w A env s Y l (fun K => Rp K (.int a))) (hr : Ev prog w A env s Y r (fun K => Rp K (.int b))) (hm : behindInMarks .Eq r = false) : Ev prog w A env s Y (.Compare l [.Eq] [r] pos) (fun K => Rp K (.bool (a == b))) :=
  ev_cmp hl hr (fun K va vb s' E Q _ ha hb hQ => by
    obtain ⟨t, rfl⟩ := ha.inv_int
    obtain ⟨u, rfl⟩ := hb.inv_int
    exact PyProof.Rows.eq_int (hQ s' (kp_refl _))) hm
theorem neB_tst {l r : Expr} {pos : Pos} {a b : Bool} (hl : Ev prog w A env s Y l (fun K => Rp K (.bool a))) (hr : Ev prog w A env s Y r (fun K => Rp K (.bool b))) (hm : behindInMarks .NotEq r = false) : Tst prog w A env s (.Compare l [.NotEq] [r] pos) (!(a == b)) :=
  tst_cmp hl hr (fun K va vb s' E Q _ ha hb hQ => by
    cases ha.inv_bool
    cases hb.inv_bool
    exact SeqAt.RcNeAt.bool_bool a b prog w E Q (hQ s' (kp_refl _))) hm
def voteOk (M : Nat) : Bool := voteB M == (((((marksZ 8).count ((marksZ 8).getD M 0) : Nat) : Int)) == 1)
theorem marks_get {M : Nat} (hM : M < 256) : ((marksZ 8).map PV.int)[M]? = some (.int ((marksZ 8).getD M 0)) := by
  have h := marks_len 8 (by decide)
  rw [List.getElem?_map, List.getD_eq_getElem?_getD, List.getElem?_eq_getElem (by rw [h]; exact hM)]; rfl
set_option maxHeartbeats 4000000 in
theorem law16 (X : Ctx prog w A env base mg mb aS vs L fa cd) (hv : voteOk (mM vs) = true) (h : LW env base (r14 aS vs) s) {E : Value → Shared → Prop} {Q : Flow → Shared → Prop}
    (hQ : ∀ s', LW env base (r14 aS vs) s' → wpAny (model prog w) A (execs (lawB.drop 17) env) Q E s') :
    wpAny (model prog w) A (execs (lawB.drop 16) env) Q E s := by
  have hE := X.hE
  have kM : env.kindOf (Str.ofString "marks") = some .local := by subst hE; kernel_rfl
  have kV : env.kindOf (Str.ofString "vote") = some .local := by subst hE; kernel_rfl
  have kC : env.kindOf (Str.ofString "cells") = some .cell := by subst hE; kernel_rfl
  have cC : env.cells.lookup (Str.ofString "cells") = some (L + 2) := by subst hE; kernel_rfl
  have vC := h.var (x := Str.ofString "cells") (pv := .list [.int (ck vs 0), .int (ck vs 1), .int (ck vs 2), .int (ck vs 3)]) (.inr ⟨kC, by rw [cC]; rfl⟩) (by kernel_rfl)
  have vM := h.var (x := Str.ofString "marks") (pv := .list ((marksZ 8).map PV.int)) (.inl kM) set_eq
  have vV := h.var (x := Str.ofString "vote") (pv := .bool (voteB (mM vs))) (.inl kV) (by kernel_rfl)
  have hM := mM_lt vs
  have hm0 : 0 ≤ (ck vs 3).fmod 256 := Int.fmod_nonneg_of_pos _ (by decide)
  have hget : ((marksZ 8).map PV.int)[((ck vs 3).fmod 256).toNat]? = some (.int ((marksZ 8).getD (mM vs) 0)) := marks_get hM
  have hlen : ((marksZ 8).map PV.int).length ≤ sizeLine := by rw [List.length_map, marks_len 8 (by decide), sizeLine_eq]; decide
  have hcc := countI_cn (prog := prog) (w := w) (A := A) (s := s) ((marksZ 8).getD (mM vs) 0) (marksZ 8)
  have hc : (!(voteB (mM vs) == (((((marksZ 8).count ((marksZ 8).getD (mM vs) 0) : Nat) : Int)) == 1))) = false := by
    unfold voteOk at hv; rw [hv]; rfl
  show wpAny _ _ (execs (_ :: _) _) _ _ _
  with_reducible refine ex_if (c := false) (hc ▸ neB_tst (ev_var X.kf vV (by decide +kernel) (by decide +kernel)) (ev_eqI ?_ ev_int (by kernel_rfl)) (by kernel_rfl)) fun s' k' => ?_
  · with_reducible refine ev_meth (T := "list") (id := "list.count") (P₀ := fun K => Rp K (.list ((marksZ 8).map PV.int))) (P := fun K => Rp K (.int (((marksZ 8).count ((marksZ 8).getD (mM vs) 0) : Nat) : Int))) (ev_var X.kf vM (by decide +kernel) (by decide +kernel)) (Rp.ok _) (Rp.ok _) ?_ (evl_cons (pv := .int ((marksZ 8).getD (mM vs) 0)) (ev_item (ev_var X.kf vM (by decide +kernel) (by decide +kernel)) (ev_mod (ev_item (ev_var X.kf vC (by decide +kernel) (by decide +kernel)) ev_int (by decide) (by kernel_rfl) (sz_le 4 (by kernel_rfl) (by decide))) ev_int (by decide)) hm0 hget hlen) evl_nil (se_sub ..)) ?_ (by subst hE; kernel_rfl) (by subst hE; kernel_rfl) (by decide) PySem.F.plainAttrs_list PySem.F.slot_list_count PySem.F.type_list_count (sh1 (se_sub ..)).1 (sh1 (se_sub ..)).2
    · exact fun K v s' _ hv => list_ty K v s' hv
    · intro K ov vs' s' E' Q' k' hv hr' hq
      exact hcc K (ov :: vs') s' E' Q' k' (.cons hv hr') hq
  · simp only [Bool.false_eq_true, if_false]
    refine wpAny_execs_nil ?_
    exact hQ s' (h.keeps k')
theorem eqS {K K' : Addr → Prop} {x : Str} {v u : Value} {h h' : Heap} (a : Rp K (.str x) v h) (b : Rp K' (.str x) u h') : SeqAt.EqAt A s v u true := by
  obtain ⟨t, rfl⟩ := a.inv_str
  obtain ⟨t', rfl⟩ := b.inv_str
  have := SeqAt.EqAt.str_str (A := A) (s := s) x t x t'
  rwa [beq_self_eq_true] at this
theorem all_true (n : Nat) : ((List.range n).all fun _ => true) = true := by simp
theorem eqSs {K K' : Addr → Prop} {l : List Str} {v u : Value} (a : Rp K (.list (l.map PV.str)) v s.heap) (b : Rp K' (.list (l.map PV.str)) u s.heap) (hu : A.units < cLine) : SeqAt.EqAt A s v u true := by
  obtain ⟨p, vs, rfl, _, hp, hL⟩ := a.inv_list
  obtain ⟨q, us, rfl, _, hq, hL'⟩ := b.inv_list
  by_cases hpq : p = q
  · subst hpq; exact SeqAt.EqAt.same _
  · have hsz : vs.toArray.size = us.toArray.size := by rw [List.size_toArray, List.size_toArray, hL.length, hL'.length]
    have := SeqAt.RcAt.lists (A := A) (e := fun _ => true) hp.isList hq.isList hsz hu fun j h1 h2 => by
      obtain ⟨p1, e1, g1⟩ := hL.get (i := j) (v := vs.toArray[j]) (by simp)
      obtain ⟨p2, e2, g2⟩ := hL'.get (i := j) (v := us.toArray[j]) (by simp)
      rw [e1] at e2; cases e2
      rw [List.getElem?_map] at e1
      obtain ⟨x, _, rfl⟩ := Option.map_eq_some_iff.mp e1
      exact eqS g1 g2
    rw [all_true] at this
    exact SeqAt.EqAt.of_refs hpq this
theorem neLL_tst {l r : Expr} {pos : Pos} {d : List (List Str)} (hu : A.units + 8 < cLine) (hl : Ev prog w A env s Y l (fun K => Rp K (.list (d.map fun x => .list (x.map PV.str))))) (hr : Ev prog w A env s Y r (fun K => Rp K (.list (d.map fun x => .list (x.map PV.str))))) (hm : behindInMarks .NotEq r = false) :
    Tst prog w A env s (.Compare l [.NotEq] [r] pos) false :=
  tst_cmp hl hr (fun K va vb s' E Q _ ha hb hQ => by
    obtain ⟨p, vs, rfl, _, hp, hL⟩ := ha.inv_list
    obtain ⟨q, us, rfl, _, hq, hL'⟩ := hb.inv_list
    have hsz : vs.toArray.size = us.toArray.size := by rw [List.size_toArray, List.size_toArray, hL.length, hL'.length]
    refine SeqAt.RcNeAt.lists (A := A) (e := fun _ => true) hp.isList hq.isList hsz (by omega) (fun j h1 h2 => ?_) prog w E Q ?_
    · obtain ⟨p1, e1, g1⟩ := hL.get (i := j) (v := vs.toArray[j]) (by simp)
      obtain ⟨p2, e2, g2⟩ := hL'.get (i := j) (v := us.toArray[j]) (by simp)
      rw [e1] at e2; cases e2
      rw [List.getElem?_map] at e1
      obtain ⟨x, _, rfl⟩ := Option.map_eq_some_iff.mp e1
      exact eqSs g1 g2 (by show A.units + 1 < cLine; omega)
    · rw [all_true]; exact hQ s' (kp_refl _)) hm
theorem gt_tst {l r : Expr} {pos : Pos} {a b : Int} (hl : Ev prog w A env s Y l (fun K => Rp K (.int a))) (hr : Ev prog w A env s Y r (fun K => Rp K (.int b))) (hm : behindInMarks .Gt r = false) : Tst prog w A env s (.Compare l [.Gt] [r] pos) (decide (b < a)) :=
  tst_cmp hl hr (fun K va vb s' E Q _ ha hb hQ => by
    obtain ⟨t, rfl⟩ := ha.inv_int
    obtain ⟨u, rfl⟩ := hb.inv_int
    exact PySem.P.gt_int (hQ s' (kp_refl _))) hm
set_option maxHeartbeats 4000000 in
theorem law17 (X : Ctx prog w A env base mg mb aS vs L fa cd) (hu : A.units + 8 < cLine) (h : LW env base (r14 aS vs) s) {E : Value → Shared → Prop} {Q : Flow → Shared → Prop}
    (hQ : ∀ s', LW env base (r14 aS vs) s' → wpAny (model prog w) A (execs (lawB.drop 18) env) Q E s') :
    wpAny (model prog w) A (execs (lawB.drop 17) env) Q E s := by
  have hE := X.hE
  have kN : env.kindOf (Str.ofString "names") = some .cell := by subst hE; kernel_rfl
  have cN : env.cells.lookup (Str.ofString "names") = some (L + 4) := by subst hE; kernel_rfl
  have kT : env.kindOf (Str.ofString "told") = some .cell := by subst hE; kernel_rfl
  have cT : env.cells.lookup (Str.ofString "told") = some (L + 7) := by subst hE; kernel_rfl
  have vN := h.var (x := Str.ofString "names") (pv := .list ((nms vs).map PV.str)) (.inr ⟨kN, by rw [cN]; rfl⟩) (by kernel_rfl)
  have vT := h.var (x := Str.ofString "told") (pv := .list (((List.range 8).map (tl vs)).map fun x => .list (x.map PV.str))) (.inr ⟨kT, by rw [cT]; rfl⟩) (by kernel_rfl)
  have G := X.glb h
  show wpAny _ _ (execs (_ :: _) _) _ _ _
  with_reducible refine ex_if (c := false) (neLL_tst (d := (List.range 8).map (tl vs)) hu (ev_var X.kf vT (by decide +kernel) (by decide +kernel)) ?_ (by kernel_rfl)) fun s' k' => ?_
  · with_reducible refine ev_compE (cl := [(Str.ofString "names", L + 4)]) (l := (List.range 8).map fun (i : Nat) => PV.int i) X.hh (by subst hE; kernel_rfl) (by kernel_rfl) (by decide +kernel) kn_dm (ev_range X.kf (by subst hE; kernel_rfl) G (n := 8) X.B.range.1 X.B.range.2 (ev_intN rfl) (by decide) (se_const ..) (by decide +kernel)) (by decide) ?_ (fun _ => true) (fun k => .list ((tl vs k).map PV.str)) (fun C i pv v s₃ T Y' hY hY' hi hr hsl k₃ => ⟨tsts_nil, fun _ => ?_⟩) (by intro _; kernel_rfl) (by kernel_rfl)
    · right
      subst hE
      exact ⟨fun _ _ => by kernel_rfl, fun _ => by kernel_rfl, by kernel_rfl⟩
    · obtain ⟨hi8, rfl⟩ := range_get hi
      generalize hCe : compEnvC _ _ C env = ce at hsl ⊢
      have kf : ce.scope.kind = .function := by subst hCe hE; kernel_rfl
      have vk := hsl.var hr
      have kK : ce.kindOf (Str.ofString "k") = some .cell := by subst hCe hE; kernel_rfl
      have cK : ce.cells.lookup (Str.ofString "k") = some (C + 1) := by subst hCe hE; kernel_rfl
      have kN3 : ce.kindOf (Str.ofString "names") = some .cell := by subst hCe hE; kernel_rfl
      have cN3 : ce.cells.lookup (Str.ofString "names") = some (L + 4) := by subst hCe hE; kernel_rfl
      have vN3 : VarIs ce s₃ Y' (Str.ofString "names") (.list ((nms vs).map PV.str)) := in_var vN k₃ hY kN cN kN3 cN3
      have G3 : Glb ce s₃ mg mb := by subst hCe; exact (G.keeps k₃).comp
      with_reducible refine ev_ite (gt_tst (ev_var kf vk (by decide +kernel) (by decide +kernel)) ev_int (by kernel_rfl)) (fun hc => ?_) (fun hc => ?_) (Rp.ok _)
      · have h0 : i ≠ 0 := by have := of_decide_eq_true hc; omega
        have e : tl vs i = (bsel i).map fun j => nm (plD vs j) := by unfold tl; rw [if_neg h0]
        rw [e]
        with_reducible refine ev_compE (cl := [(Str.ofString "names", L + 4), (Str.ofString "k", C + 1)]) (l := (List.range 3).map fun (i : Nat) => PV.int i) X.hh ?_ (by kernel_rfl) (by decide +kernel) hY' (ev_range kf (by subst hCe hE; kernel_rfl) G3 (n := 3) X.B.range.1 X.B.range.2 (ev_intN rfl) (by decide) (se_const ..) (by decide +kernel)) (by decide) ?_ (fun j => i.testBit j) (fun j => .str (nm (plD vs j))) (fun C2 j pv v s₄ T4 Y4 hY4 hY4' hj hr4 hsl4 k₄ => ?_) (by intro _; kernel_rfl) ?_
        · subst hCe hE; kernel_rfl
        · left
          subst hCe hE
          exact ⟨fun _ _ => by kernel_rfl, fun _ => by kernel_rfl, by kernel_rfl⟩
        · obtain ⟨hj3, rfl⟩ := range_get hj
          generalize hCd : compEnvC _ _ C2 ce = cf at hsl4 ⊢
          have kf4 : cf.scope.kind = .function := by subst hCd hCe hE; kernel_rfl
          have vj := hsl4.var hr4
          have vN4 : VarIs cf s₄ Y4 (Str.ofString "names") (.list ((nms vs).map PV.str)) := in_var vN3 k₄ hY4 kN3 cN3 (by subst hCd hCe hE; kernel_rfl) (by subst hCd hCe hE; kernel_rfl)
          have vk4 : VarIs cf s₄ Y4 (Str.ofString "k") (.int i) := in_var vk k₄ hY4 kK cK (by subst hCd hCe hE; kernel_rfl) (by subst hCd hCe hE; kernel_rfl)
          have hnj : ((nms vs).map PV.str)[((j : Nat) : Int).toNat]? = some (.str (nm (plD vs j))) := by
            match j, hj3 with
            | 0, _ | 1, _ | 2, _ => kernel_rfl
          refine ⟨?_, fun _ => ?_⟩
          · rw [← bit_tst i hi8 j hj3]
            with_reducible exact tsts_one (tst_int (ev_and (ev_shr (ev_var kf4 vk4 (by decide +kernel) (by decide +kernel)) (ev_var kf4 vj (by decide +kernel) (by decide +kernel)) (by omega)) ev_int) (by intro _; kernel_rfl))
          · with_reducible exact ev_item (ev_var kf4 vN4 (by decide +kernel) (by decide +kernel)) (ev_var kf4 vj (by decide +kernel) (by decide +kernel)) (by omega) hnj (sz_le 3 (by kernel_rfl) (by decide))
        · unfold bsel
          rw [List.map_map]
          kernel_rfl
      · have h0 : i = 0 := by have := of_decide_eq_false hc; omega
        have e : (tl vs i).map PV.str = [.str (Str.ofString "0x0")] := by subst h0; rfl
        rw [e]
        with_reducible exact ev_list (evl_cons ev_str evl_nil) (by decide)
  · simp only [Bool.false_eq_true, if_false]
    refine wpAny_execs_nil ?_
    exact hQ s' (h.keeps k')
end
end Mine
set_option maxRecDepth 100000
namespace Mine
section
variable {prog : Program} {w : World} {A : Around} {env : Env} {base s : Shared} {mg mb : Str → Option Value} {aS : Addr} {vs : List Value} {L fa : Addr} {cd : Value} {ρ : Str → Option PV} {Y : Addr → Prop}
def duePV (M : Nat) : PV := .list ((List.range 3).map fun j => .int (dueZ M j))
def r18 (aS : Addr) (vs : List Value) : Str → Option PV := set (r14 aS vs) (Str.ofString "due") (duePV (mM vs))
set_option maxHeartbeats 4000000 in
theorem law18 (X : Ctx prog w A env base mg mb aS vs L fa cd) (h : LW env base (r14 aS vs) s) {E : Value → Shared → Prop} {Q : Flow → Shared → Prop}
    (hQ : ∀ s', LW env base (r18 aS vs) s' → wpAny (model prog w) A (execs (lawB.drop 19) env) Q E s') :
    wpAny (model prog w) A (execs (lawB.drop 18) env) Q E s := by
  have hE := X.hE
  have kC : env.kindOf (Str.ofString "members") = some .cell := by subst hE; kernel_rfl
  have cC : env.cells.lookup (Str.ofString "members") = some (L + 5) := by subst hE; kernel_rfl
  have kS : env.kindOf (Str.ofString "size") = some .cell := by subst hE; kernel_rfl
  have cS : env.cells.lookup (Str.ofString "size") = some (L + 6) := by subst hE; kernel_rfl
  have vC := h.var (x := Str.ofString "members") (pv := .list ((List.range 8).map fun k => PV.int (bt (mM vs) k : Nat))) (.inr ⟨kC, by rw [cC]; rfl⟩) (by kernel_rfl)
  have vS := h.var (x := Str.ofString "size") (pv := .int (szM (mM vs))) (.inr ⟨kS, by rw [cS]; rfl⟩) (by kernel_rfl)
  have G := X.glb h
  show wpAny _ _ (execs (_ :: _) _) _ _ _
  with_reducible refine ex_comp (cl := [(Str.ofString "size", L + 6), (Str.ofString "members", L + 5)]) (l := (List.range 3).map fun (i : Nat) => PV.int i) X.FA h (fun _ h => h.elim) X.hh (by subst hE; kernel_rfl) (by subst hE; kernel_rfl) (by subst hE; kernel_rfl) (by kernel_rfl) (by decide +kernel) (ev_range X.kf (by subst hE; kernel_rfl) G (n := 3) X.B.range.1 X.B.range.2 (ev_intN rfl) (by decide) (se_const ..) (by decide +kernel)) (by decide) ?_ (fun _ => true) (fun j => .int (dueZ (mM vs) j)) (fun C i pv v s₃ T Y' hY hY' hi hr hsl k₃ => ⟨tsts_nil, fun _ => ?_⟩) (by intro _; kernel_rfl) (fun s' hl => ?_)
  · right
    subst hE
    exact ⟨fun _ _ => by kernel_rfl, fun _ => by kernel_rfl, by kernel_rfl⟩
  · obtain ⟨hi3, rfl⟩ := range_get hi
    generalize hCe : compEnvC _ _ C env = ce at hsl ⊢
    have kf : ce.scope.kind = .function := by subst hCe hE; kernel_rfl
    have vj := hsl.var hr
    have kJ : ce.kindOf (Str.ofString "j") = some .cell := by subst hCe hE; kernel_rfl
    have cJ : ce.cells.lookup (Str.ofString "j") = some (C + 1) := by subst hCe hE; kernel_rfl
    have kC3 : ce.kindOf (Str.ofString "members") = some .cell := by subst hCe hE; kernel_rfl
    have cC3 : ce.cells.lookup (Str.ofString "members") = some (L + 5) := by subst hCe hE; kernel_rfl
    have vC3 : VarIs ce s₃ Y' (Str.ofString "members") (.list ((List.range 8).map fun k => PV.int (bt (mM vs) k : Nat))) := in_var vC k₃ hY kC cC kC3 cC3
    have vS3 : VarIs ce s₃ Y' (Str.ofString "size") (.int (szM (mM vs))) := in_var vS k₃ hY kS cS (by subst hCe hE; kernel_rfl) (by subst hCe hE; kernel_rfl)
    have G3 : Glb ce s₃ mg mb := by subst hCe; exact (G.keeps k₃).comp
    unfold dueZ
    with_reducible refine ev_sub (ev_mul ev_int (ev_call_b kf (by subst hCe hE; kernel_rfl) G3 X.B.sum.1 X.B.sum.2 (evl_cons ?_ evl_nil) (sum_cn X.hh _) (Rp.ok _) (by decide +kernel) (sh1 (se_comp ..)).1 (sh1 (se_comp ..)).2) (.of_left (by decide))) (ev_mul ev_int (ev_var kf vS3 (by decide +kernel) (by decide +kernel)) (.of_left (by decide)))
    with_reducible refine ev_compE (cl := [(Str.ofString "members", L + 5), (Str.ofString "j", C + 1)]) (l := (List.range 8).map fun (i : Nat) => PV.int i) X.hh ?_ (by kernel_rfl) (by decide +kernel) hY' (ev_range kf (by subst hCe hE; kernel_rfl) G3 (n := 8) X.B.range.1 X.B.range.2 (ev_intN rfl) (by decide) (se_const ..) (by decide +kernel)) (by decide) ?_ (fun k => k.testBit i) (fun k => .int (bt (mM vs) k : Nat)) (fun C2 j pv v s₄ T4 Y4 hY4 hY4' hj hr4 hsl4 k₄ => ?_) (by intro _; kernel_rfl) ?_
    · subst hCe hE; kernel_rfl
    · left
      subst hCe hE
      exact ⟨fun _ _ => by kernel_rfl, fun _ => by kernel_rfl, by kernel_rfl⟩
    · obtain ⟨hj8, rfl⟩ := range_get hj
      generalize hCd : compEnvC _ _ C2 ce = cf at hsl4 ⊢
      have kf4 : cf.scope.kind = .function := by subst hCd hCe hE; kernel_rfl
      have vk := hsl4.var hr4
      have vC4 : VarIs cf s₄ Y4 (Str.ofString "members") (.list ((List.range 8).map fun k => PV.int (bt (mM vs) k : Nat))) := in_var vC3 k₄ hY4 kC3 cC3 (by subst hCd hCe hE; kernel_rfl) (by subst hCd hCe hE; kernel_rfl)
      have vj4 : VarIs cf s₄ Y4 (Str.ofString "j") (.int i) := in_var vj k₄ hY4 kJ cJ (by subst hCd hCe hE; kernel_rfl) (by subst hCd hCe hE; kernel_rfl)
      refine ⟨?_, fun _ => ?_⟩
      · rw [← bit_tst j hj8 i hi3]
        with_reducible exact tsts_one (tst_int (ev_and (ev_shr (ev_var kf4 vk (by decide +kernel) (by decide +kernel)) (ev_var kf4 vj4 (by decide +kernel) (by decide +kernel)) (by omega)) ev_int) (by intro _; kernel_rfl))
      · with_reducible exact ev_item (ev_var kf4 vC4 (by decide +kernel) (by decide +kernel)) (ev_var kf4 vk (by decide +kernel) (by decide +kernel)) (by omega) (mem_get _ hj8) (sz_le 8 (by kernel_rfl) (by decide))
    · rw [List.map_map]; kernel_rfl
  · exact hQ s' hl
theorem call_b_any {f : Str} {p pos : Pos} {es : List Expr} {id : String} {E : Value → Shared → Prop} {Q : Value → Shared → Prop} (hk : env.scope.kind = .function) (hx : env.kindOf f = some .globalImplicit) (G : Glb env s mg mb) (h1 : mg f = none) (h2 : mb f = some (.builtin id))
    (ha : wpAny (model prog w) A (spliced (backTo pos (starEach es env))) (fun vs s₁ => wpAny (model prog w) A (call (.builtin id) vs) Q E s₁) E s) (hd : (f == ("__debug__" : Str)) = false)
    (hsh : ∃ x rest, backTo pos (starEach es env) = (false, x) :: rest) (hpl : (backTo pos (starEach es env)).any (·.1) = false) :
    wpAny (model prog w) A (eval (.Call (.Name f p) es [] pos) env) Q E s := by
  refine wpAny_Call_Name_kw (name_b hk hx G h1 h2 ?_ hd)
  refine Calls.callWith_builtin hpl ?_
  obtain ⟨x, rest, e⟩ := hsh
  rw [e] at ha ⊢
  exact Calls.evalArgs_plain ha
/-- isinstance(x, float) of a float -/
theorem ev_isF {e : Expr} {f g : Str} {p q pos : Pos} {x : UInt64} (hk : env.scope.kind = .function) (hx : env.kindOf f = some .globalImplicit) (hy : env.kindOf g = some .globalImplicit) (G : Glb env s mg mb) (h1 : mg f = none) (h2 : mb f = some (.builtin "isinstance")) (h3 : mg g = none) (h4 : mb g = some (.type "float"))
    (he : Ev prog w A env s Y e (fun K => Rp K (.flt x))) (hse : ∀ es, starEach (e :: es) env = (false, eval e env) :: starEach es env) (hd : (f == ("__debug__" : Str)) = false) (hd' : (g == ("__debug__" : Str)) = false) :
    Ev prog w A env s Y (.Call (.Name f p) [e, .Name g q] [] pos) (fun K => Rp K (.bool true)) := by
  intro s' E Q k hQ
  refine call_b_any hk hx (G.keeps k) h1 h2 ?_ hd ⟨_, _, by rw [hse]; rfl⟩ (by rw [hse, se_name]; rfl)
  refine wpAny_items_cons (he s' E _ k fun v s₁ k₁ hv => ?_) (hse _)
  obtain ⟨t, rfl⟩ := hv.inv_flt
  refine wpAny_items_cons (name_b hk hy (G.keeps (kp_trans k k₁)) h3 h4 (wpAny_items_nil ?_) hd') (se_name ..)
  exact PySem.IsiPair.float_float (hQ _ _ k₁ (rp_bool ..))
theorem eqFI {z : Int} {t u : Tok} (hz : z.natAbs < 2 ^ 50) : SeqAt.EqAt A s (.float (Float64.ofInt z) t) (.int z u) true := fun prog w E Q h => by
  unfold eqBool
  refine wpAny_holding ?_
  refine wpAny_ite_split (fun hab => absurd (eq_of_beq hab) nofun) (fun _ => ?_)
  refine wpAny_bind (show wpAny _ A (compareOp .Eq (.float (Float64.ofInt z) t) (.int z u)) _ E s from PyProof.Rows.eq_fi ?_)
  rw [cmpInt_z hz, cmp_eq, beq_self_eq_true]
  exact wpAny_truthy_bool h
end
end Mine
set_option maxRecDepth 100000
namespace Mine
section
variable {prog : Program} {w : World} {A : Around} {env : Env} {base s : Shared} {mg mb : Str → Option Value} {aS : Addr} {vs : List Value} {L fa : Addr} {cd : Value} {ρ : Str → Option PV} {Y : Addr → Prop}
theorem ev_pullsDue {l r : Expr} {pos : Pos} {d : List Int} (hd : ∀ z ∈ d, z.natAbs < 2 ^ 50) (hu : A.units < cLine) (hl : Ev prog w A env s Y l (fun K => Rp K (.list (d.map fun z => .flt (Float64.ofInt z))))) (hr : Ev prog w A env s Y r (fun K => Rp K (.list (d.map fun z => .int z)))) (hm : behindInMarks .Eq r = false) :
    Ev prog w A env s Y (.Compare l [.Eq] [r] pos) (fun K => Rp K (.bool true)) :=
  ev_cmp hl hr (fun K va vb s' E Q _ ha hb hQ => by
    obtain ⟨p, vs, rfl, _, hp, hL⟩ := ha.inv_list
    obtain ⟨q, us, rfl, _, hq, hL'⟩ := hb.inv_list
    have hsz : vs.toArray.size = us.toArray.size := by rw [List.size_toArray, List.size_toArray, hL.length, hL'.length, List.length_map, List.length_map]
    refine SeqAt.eq_listAt (e := fun _ => true) hp.isList hq.isList hsz hu (fun j h1 h2 => ?_) ?_
    · obtain ⟨p1, e1, g1⟩ := hL.get (i := j) (v := vs.toArray[j]) (by simp)
      obtain ⟨p2, e2, g2⟩ := hL'.get (i := j) (v := us.toArray[j]) (by simp)
      rw [List.getElem?_map] at e1 e2
      obtain ⟨z, hz, rfl⟩ := Option.map_eq_some_iff.mp e1
      rw [hz] at e2
      simp only [Option.map_some, Option.some.injEq] at e2
      subst e2
      obtain ⟨t, ht⟩ := g1.inv_flt
      obtain ⟨u, hu'⟩ := g2.inv_int
      rw [ht, hu']
      exact eqFI (hd z (List.mem_of_getElem? hz))
    · rw [all_true]; exact hQ s' (kp_refl _)) hm
theorem ev_nilEq {l r : Expr} {pos : Pos} (hu : A.units < cLine) (hl : Ev prog w A env s Y l (fun K => Rp K (.list []))) (hr : Ev prog w A env s Y r (fun K => Rp K (.list []))) (hm : behindInMarks .Eq r = false) :
    Ev prog w A env s Y (.Compare l [.Eq] [r] pos) (fun K => Rp K (.bool true)) :=
  ev_cmp hl hr (fun K va vb s' E Q _ ha hb hQ => by
    obtain ⟨p, vs, rfl, _, hp, hL⟩ := ha.inv_list
    obtain ⟨q, us, rfl, _, hq, hL'⟩ := hb.inv_list
    cases hL.inv_nil
    cases hL'.inv_nil
    refine SeqAt.eq_listAt (e := fun _ => true) hp.isList hq.isList rfl hu (fun j h1 h2 => absurd h1 (Nat.not_lt_zero _)) ?_
    exact hQ s' (kp_refl _)) hm
set_option maxHeartbeats 4000000 in
theorem law19 (X : Ctx prog w A env base mg mb aS vs L fa cd) (hu : A.units + 8 < cLine) (h : LW env base (r18 aS vs) s) {E : Value → Shared → Prop} {Q : Flow → Shared → Prop}
    (hQ : ∀ s', LW env base (r18 aS vs) s' → Keeps s s' → Q (.ret (.bool true)) s') :
    wpAny (model prog w) A (execs (lawB.drop 19) env) Q E s := by
  have hE := X.hE
  have kU : env.kindOf (Str.ofString "pulls") = some .cell := by subst hE; kernel_rfl
  have cU : env.cells.lookup (Str.ofString "pulls") = some (L + 8) := by subst hE; kernel_rfl
  have kD : env.kindOf (Str.ofString "due") = some .local := by subst hE; kernel_rfl
  have vU := h.var (x := Str.ofString "pulls") (pv := .list (((List.range 3).map (dueZ (mM vs))).map fun z => .flt (Float64.ofInt z))) (.inr ⟨kU, by rw [cU]; rfl⟩) (by kernel_rfl)
  have vD := h.var (x := Str.ofString "due") (pv := .list (((List.range 3).map (dueZ (mM vs))).map fun z => .int z)) (.inl kD) (by kernel_rfl)
  have G := X.glb h
  have hsm : ∀ z ∈ (List.range 3).map (dueZ (mM vs)), z.natAbs < 2 ^ 50 := by
    intro z hz
    obtain ⟨j, hj, rfl⟩ := List.mem_map.mp hz
    have := due_small _ (mM_lt vs) j (List.mem_range.mp hj)
    omega
  show wpAny _ _ (execs (_ :: _) _) _ _ _
  with_reducible refine ex_ret (Y := Kn (fun _ => False) s) (P := fun K => Rp K (.bool (true && true))) (ev_and2 (ev_pullsDue hsm (by omega) (ev_var X.kf vU (by decide +kernel) (by decide +kernel)) (ev_var X.kf vD (by decide +kernel) (by decide +kernel)) (by kernel_rfl)) fun _ => ?_) fun v s' k' hv => ?_
  · with_reducible refine ev_nilEq (by omega) ?_ (ev_list evl_nil (by decide)) (by kernel_rfl)
    with_reducible refine ev_compE (cl := []) (l := ((List.range 3).map (dueZ (mM vs))).map fun z => .flt (Float64.ofInt z)) X.hh (by subst hE; kernel_rfl) (by kernel_rfl) (by decide +kernel) kn_dm ((ev_var X.kf vU (by decide +kernel) (by decide +kernel)).imp fun _ _ _ h => IterOf.ofL h) (sz_le 3 (by kernel_rfl) (by decide)) ?_ (fun _ => false) (fun _ => .int 0) (fun C i pv v s₃ T Y' hY hY' hi hr hsl k₃ => ⟨?_, fun hc => by cases hc⟩) (by intro _; kernel_rfl) ?_
    · left
      subst hE
      exact ⟨fun _ _ => by kernel_rfl, fun _ => by kernel_rfl, by kernel_rfl⟩
    · obtain ⟨z, rfl⟩ : ∃ z, pv = .flt (Float64.ofInt z) := by
        rw [List.getElem?_map] at hi
        obtain ⟨z, _, rfl⟩ := Option.map_eq_some_iff.mp hi
        exact ⟨z, rfl⟩
      generalize hCe : compEnvC _ _ C env = ce at hsl ⊢
      have kf : ce.scope.kind = .function := by subst hCe hE; kernel_rfl
      have vo := hsl.var hr
      have G3 : Glb ce s₃ mg mb := by subst hCe; exact (G.keeps k₃).comp
      have ht : Tst prog w A ce s₃ (.Call (.Name (Str.ofString "isinstance") ⟨59, 57, 59, 67⟩) [.Name (Str.ofString "one") ⟨59, 68, 59, 71⟩, .Name (Str.ofString "float") ⟨59, 73, 59, 78⟩] [] ⟨59, 57, 59, 79⟩) true :=
        tst_val (pv := .bool true) (ev_isF kf (by subst hCe hE; kernel_rfl) (by subst hCe hE; kernel_rfl) G3 X.B.isi.1 X.B.isi.2 X.B.flt.1 X.B.flt.2 (ev_var kf vo (by decide +kernel) (by decide +kernel)) (fun _ => se_name ..) (by decide +kernel) (by decide +kernel)) (fun K v s' E Q hr hq => by cases hr.inv_bool; exact wpAny_truthy_bool hq) (by intro _; rfl)
      exact tsts_one (tst_not ht)
    · kernel_rfl
  · cases hv.inv_bool
    exact hQ s' (h.keeps k') k'
end
end Mine
set_option maxRecDepth 100000
namespace Mine
open Float64
open PySem.Builtin.Math (tlFma tlToFloat dlMul dlSum)
theorem add_nz {h : Int} (hh : h.natAbs < 2 ^ 53) : Float64.add (hf h) (Float64.zero true) = hf h := by
  obtain ⟨⟨m, e, hd⟩, hv⟩ := hf_dec h hh
  have hz : Float64.decode (Float64.zero true) = .fin true 0 (-1074)  := by kernel_rfl
  have hv0 : Float64.val (Float64.zero true) = 0 := by decide +kernel
  obtain ⟨h0, h1⟩ := add_right hd hz
  rw [hv, hv0, Int.add_zero] at h0 h1
  by_cases hn : h = 0
  · rw [h0 (scale_zero.mpr hn), hn, hf_zero]; rfl
  · have h1 := h1 fun e => hn (scale_zero.mp e)
    rw [scale_lt, scale_abs] at h1
    exact right_eq h1 hh
theorem hf00 : Float64.add (hf 0) (hf 0) = hf 0 := by rw [add_hf (by decide) (by decide) (by decide)]; rfl
theorem dl00 : dlSum (hf 0) (hf 0) = (hf 0, hf 0) := by decide +kernel
theorem dlSum_hf {h p : Int} (hh : h.natAbs < 20000) (hp : p.natAbs < 20000) : dlSum (hf h) (hf p) = (hf (h + p), hf 0) := by
  unfold dlSum
  have e1 : Float64.add (hf h) (hf p) = hf (h + p) := add_hf (by omega) (by omega) (by omega)
  have e2 : Float64.sub (hf (h + p)) (hf h) = hf p := by rw [sub_hf (by omega) (by omega) (by omega)]; congr 1; omega
  have e3 : Float64.sub (hf (h + p)) (hf p) = hf h := by rw [sub_hf (by omega) (by omega) (by omega)]; congr 1; omega
  have e4 : Float64.sub (hf h) (hf h) = hf 0 := by rw [sub_hf (by omega) (by omega) (by omega)]; congr 1; omega
  have e5 : Float64.sub (hf p) (hf p) = hf 0 := by rw [sub_hf (by omega) (by omega) (by omega)]; congr 1; omega
  simp only [e1, e2, e3, e4, e5, hf00]
theorem dlSum_nz {h : Int} (hh : h.natAbs < 20000) : dlSum (hf h) (Float64.zero true) = (hf h, hf 0) := by
  unfold dlSum
  have e1 : Float64.add (hf h) (Float64.zero true) = hf h := add_nz (by omega)
  have e2 : Float64.sub (hf h) (hf h) = hf 0 := by rw [sub_hf (by omega) (by omega) (by omega)]; congr 1; omega
  have e3 : Float64.sub (hf h) (hf 0) = hf h := by rw [sub_hf (by omega) (by decide) (by omega)]; congr 1; omega
  have e4 : Float64.sub (Float64.zero true) (hf 0) = Float64.zero true := by decide +kernel
  have e5 : Float64.add (hf 0) (Float64.zero true) = hf 0 := add_nz (by decide)
  simp only [e1, e2, e3, e4, e5]
/-- a pair whose product is exact -/
def Ex (X Y : UInt64) (p : Int) : Prop := p.natAbs < 1000 ∧ (dlMul X Y = (hf p, hf 0) ∨ (p = 0 ∧ dlMul X Y = (Float64.zero true, hf 0)))
theorem tl_step {X Y : UInt64} {p h : Int} (e : Ex X Y p) (hh : h.natAbs < 10000) : tlFma X Y (hf h, hf 0, hf 0) = (hf (h + p), hf 0, hf 0) := by
  obtain ⟨hp, e⟩ := e
  have key : dlSum (hf h) (dlMul X Y).1 = (hf (h + p), hf 0) ∧ (dlMul X Y).2 = hf 0 := by
    rcases e with e | ⟨rfl, e⟩
    · rw [e]; exact ⟨dlSum_hf (by omega) (by omega), rfl⟩
    · rw [e]; exact ⟨by rw [dlSum_nz (by omega), Int.add_zero], rfl⟩
  unfold tlFma
  simp only [key.1, key.2, dl00, hf00]
theorem sp_exact : ∀ (l : List (UInt64 × UInt64)) (ps : List Int) (h : Int), l.length = ps.length → (∀ (i : Nat) (X Y : UInt64) (p : Int), l[i]? = some (X, Y) → ps[i]? = some p → Ex X Y p) → h.natAbs + 1000 * ps.length < 10000 →
    spParts (hf h, hf 0, hf 0) l = (hf (h + ps.sum), hf 0, hf 0) ∧ spOk (hf h, hf 0, hf 0) l = true
  | [], [], h, _, _, _ => ⟨by simp [spParts], rfl⟩
  | [], _ :: _, _, hl, _, _ => by simp at hl
  | _ :: _, [], _, hl, _, _ => by simp at hl
  | (X, Y) :: l, p :: ps, h, hl, hE, hb => by
    have e := hE 0 X Y p rfl rfl
    rw [List.length_cons] at hb
    have st := tl_step e (h := h) (by omega)
    have hp := e.1
    obtain ⟨ih1, ih2⟩ := sp_exact l ps (h + p) (by simpa using hl) (fun i X Y q a b => hE (i + 1) X Y q (by simpa using a) (by simpa using b)) (by omega)
    rw [spParts, spOk, st, ih1, ih2, List.sum_cons, fin_hf _ (by omega)]
    exact ⟨by rw [Int.add_assoc], rfl⟩
theorem z3_hf : z3 = (hf 0, hf 0, hf 0) := by unfold z3; rw [hf_zero]
theorem tl_out {S : Int} (hS : S.natAbs < 10000) : Float64.add (ofInt 0) (tlToFloat (hf S, hf 0, hf 0)) = hf S := by
  have e0 : ofInt 0 = hf 0 := by decide +kernel
  have e1 : Float64.add (hf 0) (hf S) = hf S := by rw [add_hf (by decide) (by omega) (by omega)]; congr 1; omega
  unfold tlToFloat
  simp only [dlSum_hf (h := 0) (p := S) (by decide) (by omega), Int.zero_add, hf00, e1, e0]
def pt (u s : Nat) : List UInt64 := if s = 0 then [] else [ofInt ((u * s : Nat) : Int)]
def stepGood (u s b : Nat) : Bool := (fsStep (pt u s) (ofInt ((u * b : Nat) : Int)) == pt u (s + b)) && isFinite (fsumAdd (pt u s) (ofInt ((u * b : Nat) : Int))).2
theorem step56 : ∀ s, s < 9 → ∀ b, b < 2 → stepGood 56 s b = true := by decide +kernel
theorem step1 : ∀ s, s < 9 → ∀ b, b < 2 → stepGood 1 s b = true := by decide +kernel
theorem fs_exact (u : Nat) (hu : ∀ s, s < 9 → ∀ b, b < 2 → stepGood u s b = true) : ∀ (l : List Nat) (s : Nat), (∀ b ∈ l, b < 2) → s + l.length ≤ 8 → fsParts (pt u s) (l.map fun b => ofInt ((u * b : Nat) : Int)) = pt u (s + l.sum) ∧ fsOk (pt u s) (l.map fun b => ofInt ((u * b : Nat) : Int)) = true
  | [], s, _, _ => by simp [fsParts, fsOk]
  | b :: l, s, hb, hs => by
    have h2 := hb b List.mem_cons_self
    rw [List.length_cons] at hs
    obtain ⟨g1, g2⟩ := Bool.and_eq_true_iff.mp (hu s (by omega) b h2)
    have g1 := eq_of_beq g1
    obtain ⟨ih1, ih2⟩ := fs_exact u hu l (s + b) (fun c hc => hb c (List.mem_cons_of_mem _ hc)) (by omega)
    rw [List.map_cons, fsParts, fsOk, g1, ih1, ih2, g2, List.sum_cons, Nat.add_assoc]
    exact ⟨rfl, rfl⟩
def barGood (s : Nat) : Bool := Float64.div (fsumEnd (pt 56 s)) (ofInt 8) == hf (14 * (s : Int))
theorem bar56 : ∀ s, s < 9 → barGood s = true := by decide +kernel
theorem bar1 : Float64.div (fsumEnd (pt 1 4)) (ofInt 8) = hf 1 := by decide +kernel
def bL (M : Nat) : List Nat := (List.range 8).map (bt M)
def cL (j : Nat) : List Nat := (List.range 8).map fun k => if k.testBit j then 1 else 0
theorem fam_bits (M : Nat) : (famL M).map ofInt = (bL M).map fun b => ofInt ((56 * b : Nat) : Int) := by unfold famL bL; rw [List.map_map, List.map_map]; exact List.map_congr_left fun k _ => by simp
theorem col_bits (j : Nat) : (colL j).map ofInt = (cL j).map fun b => ofInt ((1 * b : Nat) : Int) := by
  unfold colL cL; rw [List.map_map, List.map_map]
  refine List.map_congr_left fun k _ => ?_
  simp only [Function.comp_apply]
  split <;> rfl
theorem bL_lt (M : Nat) : ∀ b ∈ bL M, b < 2 := by
  intro b hb
  obtain ⟨k, _, rfl⟩ := List.mem_map.mp hb
  have := bt_le M k; omega
theorem cL_lt (j : Nat) : ∀ b ∈ cL j, b < 2 := by
  intro b hb
  obtain ⟨k, _, rfl⟩ := List.mem_map.mp hb
  split <;> decide
theorem bL_sum (M : Nat) : (bL M).sum = szM M := rfl
theorem cL_sum : ∀ j, j < 3 → (cL j).sum = 4 := by decide +kernel
theorem szM_lt (M : Nat) : szM M < 9 := by
  have h : ∀ l : List Nat, (∀ b ∈ l, b < 2) → l.sum ≤ l.length := by
    intro l hl
    induction l with
    | nil => simp
    | cons a l ih =>
      have := hl a List.mem_cons_self
      have := ih fun b hb => hl b (List.mem_cons_of_mem _ hb)
      rw [List.sum_cons, List.length_cons]; omega
  have := h (bL M) (bL_lt M)
  rw [bL_sum] at this
  have e : (bL M).length = 8 := by unfold bL; simp
  omega
theorem fam_len (M : Nat) : (famL M).length = 8 := by unfold famL; simp
theorem col_len (j : Nat) : (colL j).length = 8 := by unfold colL; simp
theorem pt0 (u : Nat) : pt u 0 = [] := rfl
theorem fam_fs (M : Nat) : fsOk [] ((famL M).map ofInt) = true ∧ barF (famL M) = hf (14 * (szM M : Int)) := by
  have h := fs_exact 56 step56 (bL M) 0 (bL_lt M) (by unfold bL; simp)
  rw [pt0, Nat.zero_add, bL_sum] at h
  unfold barF fsumF
  rw [fam_bits, h.1, h.2, fam_len]
  exact ⟨rfl, eq_of_beq (bar56 _ (szM_lt M))⟩
theorem col_fs (j : Nat) (hj : j < 3) : fsOk [] ((colL j).map ofInt) = true ∧ barF (colL j) = hf 1 := by
  have h := fs_exact 1 step1 (cL j) 0 (cL_lt j) (by unfold cL; simp)
  rw [pt0, Nat.zero_add, cL_sum j hj] at h
  unfold barF fsumF
  rw [col_bits, h.1, h.2, col_len]
  exact ⟨rfl, bar1⟩
def fx (M k : Nat) : Int := 112 * (bt M k : Int) - 14 * (szM M : Int)
def cy (j k : Nat) : Int := if k.testBit j then 1 else -1
theorem fam_dev (M : Nat) : devF (famL M) = (List.range 8).map fun k => hf (fx M k) := by
  unfold devF
  rw [(fam_fs M).2]
  unfold famL
  rw [List.map_map]
  refine List.map_congr_left fun k _ => ?_
  have h1 := bt_le M k
  have h2 := szM_lt M
  simp only [Function.comp_apply]
  rw [ofInt_hf _ (by omega), sub_hf (by omega) (by omega) (by omega)]
  unfold fx
  congr 1; omega
theorem col_dev (j : Nat) (hj : j < 3) : devF (colL j) = (List.range 8).map fun k => hf (cy j k) := by
  unfold devF
  rw [(col_fs j hj).2]
  unfold colL
  rw [List.map_map]
  refine List.map_congr_left fun k _ => ?_
  simp only [Function.comp_apply]
  unfold cy
  split <;> (rw [ofInt_hf _ (by decide), sub_hf (by decide) (by decide) (by decide)]; rfl)
def prodZ (s b : Nat) (y : Int) : Int := (56 * (b : Int) - 7 * (s : Int)) * y
def exGood (s b : Nat) (y : Int) : Bool :=
  let x := hf (112 * (b : Int) - 14 * (s : Int))
  (dlMul x (hf y) == (hf (prodZ s b y), hf 0) || (prodZ s b y == 0 && dlMul x (hf y) == (Float64.zero true, hf 0))) && (dlMul (hf y) x == (hf (prodZ s b y), hf 0) || (prodZ s b y == 0 && dlMul (hf y) x == (Float64.zero true, hf 0)))
theorem ex_pos : ∀ s, s < 9 → ∀ b, b < 2 → exGood s b 1 = true := by decide +kernel
theorem ex_neg : ∀ s, s < 9 → ∀ b, b < 2 → exGood s b (-1) = true := by decide +kernel
def pz (M j k : Nat) : Int := prodZ (szM M) (bt M k) (cy j k)
theorem pz_ex (M j k : Nat) : Ex (hf (fx M k)) (hf (cy j k)) (pz M j k) ∧ Ex (hf (cy j k)) (hf (fx M k)) (pz M j k) := by
  have h1 := bt_le M k
  have h2 := szM_lt M
  have g : exGood (szM M) (bt M k) (cy j k) = true := by
    unfold cy
    split
    · exact ex_pos _ h2 _ (by omega)
    · exact ex_neg _ h2 _ (by omega)
  have hb : (pz M j k).natAbs < 1000 := by
    unfold pz prodZ cy
    split <;> omega
  obtain ⟨g1, g2⟩ := Bool.and_eq_true_iff.mp g
  refine ⟨⟨hb, ?_⟩, ⟨hb, ?_⟩⟩
  · rcases Bool.or_eq_true_iff.mp g1 with g | g
    · exact .inl (eq_of_beq g)
    · obtain ⟨g, g'⟩ := Bool.and_eq_true_iff.mp g
      exact .inr ⟨eq_of_beq g, eq_of_beq g'⟩
  · rcases Bool.or_eq_true_iff.mp g2 with g | g
    · exact .inl (eq_of_beq g)
    · obtain ⟨g, g'⟩ := Bool.and_eq_true_iff.mp g
      exact .inr ⟨eq_of_beq g, eq_of_beq g'⟩
def pL (M j : Nat) : List Int := (List.range 8).map (pz M j)
theorem pL_sum : ∀ M, M < 256 → ∀ j, j < 3 → (pL M j).sum = 14 * dueZ M j := by decide +kernel
def divGood (d : Int) : Bool := Float64.div (hf (14 * d)) (ofInt 7) == ofInt d
theorem div_pos : ∀ d : Nat, d < 17 → (divGood (d : Int) && divGood (-(d : Int))) = true := by decide +kernel
theorem div_good {d : Int} (h : d.natAbs ≤ 16) : Float64.div (hf (14 * d)) (ofInt 7) = ofInt d := by
  obtain ⟨g1, g2⟩ := Bool.and_eq_true_iff.mp (div_pos d.natAbs (by omega))
  rcases Int.natAbs_eq d with e | e
  · rw [e]; exact eq_of_beq g1
  · rw [e]; exact eq_of_beq g2
theorem zipm (f g : Nat → UInt64) : ((List.range 8).map f).zip ((List.range 8).map g) = (List.range 8).map fun k => (f k, g k) := by rw [List.zip_map', ]
theorem range_at {α : Type} {f : Nat → α} {i : Nat} {y : α} (h : ((List.range 8).map f)[i]? = some y) : y = f i := by
  rw [List.getElem?_map] at h
  obtain ⟨k, hk, rfl⟩ := Option.map_eq_some_iff.mp h
  obtain ⟨hk1, hk2⟩ := List.getElem?_eq_some_iff.mp hk
  rw [List.getElem_range] at hk2
  rw [hk2]
theorem cov_fc (M : Nat) (hM : M < 256) (j : Nat) (hj : j < 3) : covOk (famL M) (colL j) = true ∧ covF (famL M) (colL j) = ofInt (dueZ M j) := by
  have hd := due_small M hM j hj
  have hs := pL_sum M hM j hj
  obtain ⟨s1, s2⟩ := sp_exact ((List.range 8).map fun k => (hf (fx M k), hf (cy j k))) (pL M j) 0 (by unfold pL; simp) (fun i X Y p a b => by
    have a := range_at a
    have b := range_at (f := pz M j) b
    cases a; subst b
    exact (pz_ex M j i).1) (by unfold pL; simp)
  rw [Int.zero_add, hs] at s1
  unfold covOk covF sxyF
  rw [fam_dev, col_dev j hj, zipm, z3_hf, s1, s2, (fam_fs M).1, (col_fs j hj).1, fam_len, tl_out (by omega)]
  exact ⟨rfl, div_good hd⟩
theorem cov_cf (M : Nat) (hM : M < 256) (j : Nat) (hj : j < 3) : covOk (colL j) (famL M) = true ∧ covF (colL j) (famL M) = ofInt (dueZ M j) := by
  have hd := due_small M hM j hj
  have hs := pL_sum M hM j hj
  obtain ⟨s1, s2⟩ := sp_exact ((List.range 8).map fun k => (hf (cy j k), hf (fx M k))) (pL M j) 0 (by unfold pL; simp) (fun i X Y p a b => by
    have a := range_at a
    have b := range_at (f := pz M j) b
    cases a; subst b
    exact (pz_ex M j i).2) (by unfold pL; simp)
  rw [Int.zero_add, hs] at s1
  unfold covOk covF sxyF
  rw [fam_dev, col_dev j hj, zipm, z3_hf, s1, s2, (fam_fs M).1, (col_fs j hj).1, col_len, tl_out (by omega)]
  exact ⟨rfl, div_good hd⟩
theorem cov_good (M : Nat) (hM : M < 256) : covGood M = true := by
  unfold covGood
  rw [(cov_fc M hM 0 (by decide)).1, (cov_fc M hM 0 (by decide)).2, (cov_cf M hM 1 (by decide)).1, (cov_cf M hM 1 (by decide)).2, (cov_fc M hM 2 (by decide)).1, (cov_fc M hM 2 (by decide)).2]
  simp
end Mine
set_option maxRecDepth 100000
namespace Mine
theorem vote0 : ∀ M, M < 32 → voteOk (0 + M) = true := by decide +kernel
theorem vote1 : ∀ M, M < 32 → voteOk (32 + M) = true := by decide +kernel
theorem vote2 : ∀ M, M < 32 → voteOk (64 + M) = true := by decide +kernel
theorem vote3 : ∀ M, M < 32 → voteOk (96 + M) = true := by decide +kernel
theorem vote4 : ∀ M, M < 32 → voteOk (128 + M) = true := by decide +kernel
theorem vote5 : ∀ M, M < 32 → voteOk (160 + M) = true := by decide +kernel
theorem vote6 : ∀ M, M < 32 → voteOk (192 + M) = true := by decide +kernel
theorem vote7 : ∀ M, M < 32 → voteOk (224 + M) = true := by decide +kernel
theorem vote_ok (M : Nat) (hM : M < 256) : voteOk M = true := by
  have e : M = 32 * (M / 32) + M % 32 := (Nat.div_add_mod M 32).symm
  have h : M % 32 < 32 := Nat.mod_lt _ (by decide)
  have hq : M / 32 < 8 := by omega
  rw [e]
  generalize M / 32 = q at *
  match q, hq with
  | 0, _ => exact vote0 _ h
  | 1, _ => exact vote1 _ h
  | 2, _ => exact vote2 _ h
  | 3, _ => exact vote3 _ h
  | 4, _ => exact vote4 _ h
  | 5, _ => exact vote5 _ h
  | 6, _ => exact vote6 _ h
  | 7, _ => exact vote7 _ h
end Mine
set_option maxRecDepth 100000
namespace Mine
section
variable {prog : Program} {w : World} {A : Around} {env : Env} {base s : Shared} {mg mb : Str → Option Value} {aS : Addr} {vs : List Value} {L fa : Addr} {cd : Value}
def r0 (aS : Addr) : Str → Option PV := set (fun _ => none) (Str.ofString "script") (.ref aS)
theorem law_all (X : Ctx prog w A env base mg mb aS vs L fa cd) {c P : Addr} (C : Wc mg mb c P base.heap) (T : Tab c P #[] base.heap) (hroom : A.depth + 1 < recursionLimit) (hu : A.units + 8 < cLine) (h : LW env base (r0 aS) s) {E : Value → Shared → Prop} {Q : Flow → Shared → Prop}
    (hQ : ∀ ps' s' , (∀ b o, b ≠ P → base.heap.get? b = some o → s'.heap.get? b = some o) → Tab c P ps' s'.heap → AllBare s'.gens → s'.os = base.os → Q (.ret (.bool true)) s') :
    wpAny (model prog w) A (execs lawB env) Q E s := by
  have hM := mM_lt vs
  refine law1 X h fun s1 h1 => ?_
  refine law2 X h1 fun s2 h2 => ?_
  refine law3 X h2 fun s3 h3 => ?_
  refine law4 X h3 fun s4 h4 => ?_
  refine law5 X h4 fun s5 h5 => ?_
  refine law6 X h5 fun s6 h6 => ?_
  refine law7 X h6 fun s7 h7 => ?_
  refine law8 X h7 fun s8 h8 => ?_
  refine law9 X C T hroom (cov_good _ hM) h8 fun ps' s9 T9 h9 => ?_
  have X' := X.rebase (ps' := ps') T
  refine law10 X' h9 fun s10 h10 => ?_
  refine law11 X' h10 fun s11 h11 => ?_
  refine law12 X' h11 fun s12 h12 => ?_
  refine law13 X' h12 fun s13 h13 => ?_
  refine law14 X' h13 fun s14 h14 => ?_
  refine law16 X' (vote_ok _ hM) h14 fun s16 h16 => ?_
  refine law17 X' hu h16 fun s17 h17 => ?_
  refine law18 X' h17 fun s18 h18 => ?_
  refine law19 X' hu h18 fun s19 h19 _ => ?_
  have kb : ∀ b o, b ≠ P → base.heap.get? b = some o → s19.heap.get? b = some o := fun b o hb e => h19.keep b o ((rebase_other P ps' hb).trans e) fun x => x
  have hP : s19.heap.get? P = some { cls := .none, data := .fields ps' } := h19.keep P _ (rebase_self T.tab.2) fun x => x
  have hcP : c ≠ P := by
    obtain ⟨_, _, _, _, _, _, _, _, _, _, _, _, _, _, _, _, _, _, _, _, hne⟩ := T.code
    exact hne
  have T19 : Tab c P ps' s19.heap := by
    obtain ⟨o, vs, file, tf, flags, tg, inF, text, tt, op, q1, q2, q3, q4, q5, q6, q7, q8, q9, q10⟩ := T.code
    obtain ⟨⟨o', vs', q1', q2', q3', q4'⟩, q5'⟩ := T.tab
    obtain ⟨_, _, _, _, _, _, _, _, _, _, _, _, _, _, _, _, _, r8, r9, r10, _⟩ := T9.code
    rw [T9.tab.2] at r8
    cases r8
    cases r9
    exact ⟨⟨o, vs, file, tf, flags, tg, inF, text, tt, _, kb _ _ hcP q1, q2, q3, q4, q5, q6, q7, hP, rfl, r10, hcP⟩, ⟨⟨o', vs', kb _ _ hcP q1', q2', q3', q4'⟩, hP⟩⟩
  exact hQ ps' s19 kb T19 h19.same.1 h19.same.2
end
end Mine
set_option maxRecDepth 100000
namespace Mine
section
variable {prog : Program} {w : World} {A : Around} {s : Shared} {mg mb : Str → Option Value} {aS : Addr} {vs : List Value}
theorem law_cells (L fa : Addr) (cd : Value) : (lawEnv L fa cd).cells = [(Str.ofString "mark", L + 10), (Str.ofString "totals", L + 9), (Str.ofString "pulls", L + 8), (Str.ofString "told", L + 7), (Str.ofString "size", L + 6), (Str.ofString "members", L + 5), (Str.ofString "names", L + 4), (Str.ofString "places", L + 3), (Str.ofString "cells", L + 2), (Str.ofString "script", L + 1)] := by kernel_rfl
set_option maxHeartbeats 4000000 in
theorem law_call {fa : Addr} {o : Obj} {pm cd doc : Value} (ho : s.heap.get? fa = some o) (hf : o.data = .func (Calls.docDef (recOf (stAt 9)).name (recOf (stAt 9)).params (recOf (stAt 9)).body (recOf (stAt 9)).scope pm cd doc)) (hcd : s.heap.CodeRec cd (recOf (stAt 9)).name)
    (hb : AllBare s.gens) (hh : A.handled = none) (hroom : A.depth + 2 < recursionLimit) (hu : A.units + 16 < cLine) (W : Wld prog w mg mb aS vs s.heap) (B : Bn mg mb) (hi : ∀ v ∈ vs, ∃ i t, v = Value.int i t) (hl : vs.length ≤ 63)
    {c P : Addr} (C : Wc mg mb c P s.heap) (T : Tab c P #[] s.heap) {R : Result → Shared → Prop}
    (hR : ∀ ps' s' , (∀ b o, b ≠ P → s.heap.get? b = some o → s'.heap.get? b = some o) → Tab c P ps' s'.heap → AllBare s'.gens → s'.os = s.os → R (.ok (.ret (.bool true))) s') :
    codeAny (model prog w) A (.call (.ref fa) ⟨[.ref aS], []⟩) R s := by
  refine call_cells (by omega) ho hf W.nl hcd (binds := [(Str.ofString "script", .ref aS)]) (by kernel_rfl) ?_ (fun h₁ tk₁ F X => ?_) (by kernel_rfl) (by kernel_rfl) (by kernel_rfl)
  · intro x hx
    simp only [List.mem_cons, List.not_mem_nil, or_false] at hx
    subst hx
    exact .inr ⟨by kernel_rfl, by kernel_rfl⟩
  have SC : FrameAt (lawEnv s.heap.objs.size fa cd) s ∧ LW (lawEnv s.heap.objs.size fa cd) s (r0 aS) { s with heap := h₁, toks := tk₁ } := by
    refine startC (name := (recOf (stAt 9)).name) (scope := (recOf (stAt 9)).scope) (L := s.heap.objs.size) (a := fa) (cd := cd) (Xs := fun _ => False) (tk := tk₁) (Sm := SmL s) (ρ := r0 aS) (base := s) (by kernel_rfl) (Nat.le_refl _) (fun x c' hm => ?_) F X ⟨hb, rfl⟩ (fun x pv e => ?_)
    · have hm' : (x, c') ∈ (lawEnv s.heap.objs.size fa cd).cells := hm
      rw [law_cells] at hm'
      simp only [List.mem_cons, List.not_mem_nil, or_false] at hm'
      rcases hm' with hm | hm | hm | hm | hm | hm | hm | hm | hm | hm <;> (cases hm; kernel_rfl)
    · simp only [r0, set] at e
      split at e
      · rename_i hx; subst hx; cases e
        exact ⟨fun hk => absurd hk (by rw [show (envOfC (recOf (stAt 9)).name (recOf (stAt 9)).scope s.heap.objs.size fa cd).kindOf (Str.ofString "script") = some .cell by kernel_rfl]; intro h; cases h), fun c' _ => ⟨_, by kernel_rfl, fun _ => True, rp_ref ..⟩⟩
      · cases e
  obtain ⟨FA, L0⟩ := SC
  have hX : Ctx prog w (A.deeper (lawEnv s.heap.objs.size fa cd)) (lawEnv s.heap.objs.size fa cd) s mg mb aS vs s.heap.objs.size fa cd := ⟨rfl, hh, by show A.depth + 1 < _; omega, FA, W, B, hi, hl⟩
  exact law_all hX C T (by show A.depth + 1 + 1 < _; omega) (by show A.units + 3 + 8 < _; omega) L0 fun ps' s' k1 k2 k3 k4 => hR ps' s' k1 k2 k3 k4
end
end Mine
namespace Mine
set_option maxRecDepth 100000
set_option maxHeartbeats 8000000
open_top hd for PySem.Challenge.rw_rl0012_01
end Mine
set_option maxRecDepth 100000
set_option maxHeartbeats 4000000
namespace Mine
theorem f3 : (recsOf hd.view_39).find? (fun e => e.name == Str.ofString "pretty_flags") = some (recOf (stAt 3)) := by kernel_rfl
theorem f6 : (recsOf hd.view_39).find? (fun e => e.name == Str.ofString "covariance") = some (recOf (stAt 6)) := by kernel_rfl
theorem f8 : (recsOf hd.view_39).find? (fun e => e.name == Str.ofString "_law_name") = some (recOf (stAt 8)) := by kernel_rfl
theorem fT : tabIntOf hd.view_39 (Str.ofString "COMPILER_FLAG_NAMES") = some cfD := by kernel_rfl
noncomputable def glob3 (P : Params) (x : Str) : Option Value := ((hd.heap_39 P).lookup mainGlobals).bind fun o => match o.data with | .dict es _ => nsFind es x | _ => none
theorem glob_of {P : Params} {h : Heap} {mg : Str → Option Value} (K : (hd.heap_39 P).In h) (hn : h.Ns mainGlobals mg) (hs : ((hd.heap_39 P).lookup mainGlobals).isSome = true) (x : Str) : mg x = glob3 P x := by
  obtain ⟨o, ho⟩ := Option.isSome_iff_exists.mp hs
  obtain ⟨o', es, ep, ho', hd', _, hf⟩ := hn
  have := K _ _ ho
  rw [ho'] at this; cases this
  unfold glob3
  rw [ho]
  simp only [Option.bind_some, hd', hf]
theorem g_some (P : Params) : ((hd.heap_39 P).lookup mainGlobals).isSome = true := by kernel_rfl
theorem g_sp (P : Params) : glob3 P (Str.ofString "sumprod") = some (.builtin "math.sumprod") := by kernel_rfl
theorem g_fs (P : Params) : glob3 P (Str.ofString "fsum") = some (.builtin "math.fsum") := by kernel_rfl
theorem g_none (P : Params) : [Str.ofString "sum", Str.ofString "range", Str.ofString "hex", Str.ofString "min", Str.ofString "max", Str.ofString "len", Str.ofString "isinstance", Str.ofString "float"].map (glob3 P) = [none, none, none, none, none, none, none, none] := by kernel_rfl
theorem b_all : [Str.ofString "sum", Str.ofString "range", Str.ofString "hex", Str.ofString "min", Str.ofString "max", Str.ofString "len", Str.ofString "isinstance", Str.ofString "float"].map bootBuiltins = [some (.builtin "sum"), some (.type "range"), some (.builtin "hex"), some (.builtin "min"), some (.builtin "max"), some (.builtin "len"), some (.builtin "isinstance"), some (.type "float")] := by kernel_rfl
theorem bn_of {P : Params} {h : Heap} {mg mb : Str → Option Value} (K : (hd.heap_39 P).In h) (hn : h.Ns mainGlobals mg) (hb : ∀ x : Str, x ≠ "__name__" → mb x = bootBuiltins x) : Bn mg mb := by
  have G := glob_of K hn (g_some P)
  have N := g_none P
  have M := b_all
  simp only [List.map_cons, List.map_nil, List.cons.injEq, and_true] at N M
  obtain ⟨n1, n2, n3, n4, n5, n6, n7, n8⟩ := N
  obtain ⟨m1, m2, m3, m4, m5, m6, m7, m8⟩ := M
  exact ⟨⟨(G _).trans n1, (hb _ (by decide +kernel)).trans m1⟩, ⟨(G _).trans n2, (hb _ (by decide +kernel)).trans m2⟩, ⟨(G _).trans n3, (hb _ (by decide +kernel)).trans m3⟩, ⟨(G _).trans n4, (hb _ (by decide +kernel)).trans m4⟩, ⟨(G _).trans n5, (hb _ (by decide +kernel)).trans m5⟩, ⟨(G _).trans n6, (hb _ (by decide +kernel)).trans m6⟩, ⟨(G _).trans n7, (hb _ (by decide +kernel)).trans m7⟩, ⟨(G _).trans n8, (hb _ (by decide +kernel)).trans m8⟩⟩
theorem pairs_other {p q : Program} {w : World} {es : List DictEntry} {kvs : List (Int × Value)} (x : PySem.Pairs (intKind p w) es kvs) : PySem.Pairs (intKind q w) es kvs := by
  induction x with
  | nil => exact .nil
  | cons h1 h2 _ ih => exact .cons h1 h2 ih
theorem tab_other {p q : Program} {w : World} {h : Heap} {d : Addr} {D : List (PyData × PyData)} (T : IntTab p w h d D) : IntTab q w h d D := by
  obtain ⟨lo, kvs, ⟨o, es, ep, ho, h1, h2, h3, h4, h5⟩, hf⟩ := T
  exact ⟨lo, kvs, ⟨o, es, ep, ho, h1, h2, h3, pairs_other h4, h5⟩, hf⟩
theorem fn_of {p : Program} {loose : List Str} {mean : ExcName → Option Value} {mg mb : Str → Option Value} {h : Heap} (T : Top p loose mean mg mb h) {d : DefRec} {name : Str} (hf : (recsOf p).find? (fun e => e.name == name) = some d) :
    ∃ a o pm cd doc, mg name = some (.ref a) ∧ h.get? a = some o ∧ o.data = .func (Calls.docDef d.name d.params d.body d.scope pm cd doc) ∧ h.CodeRec cd d.name := by
  have hn : d.name = name := beq_iff_eq.mp (List.find?_some (p := fun e : DefRec => e.name == name) hf)
  obtain ⟨a, o, pm, cd, doc, h1, r⟩ := T.fn d (List.mem_of_find?_eq_some hf)
  exact ⟨a, o, pm, cd, doc, hn ▸ h1, r⟩
theorem wld_of {q : Program} {loose : List Str} {mean : ExcName → Option Value} {mg mb : Str → Option Value} {w : World} {h : Heap} (T : Top hd.view_39 loose mean mg mb h) (B : Tables hd.view_39 w mg h) {aS : Addr} {vs : List Value} (hs : h.IsList aS vs.toArray) : Wld q w mg mb aS vs h := by
  obtain ⟨d, h1, h2⟩ := B.tabI _ _ fT
  exact ⟨T.g, T.b, T.nolimit, fn_of T f3, fn_of T f6, fn_of T f8, ⟨d, h1, tab_other h2⟩, hs⟩
theorem wc_of {loose : List Str} {mean : ExcName → Option Value} {mg mb : Str → Option Value} {h : Heap} {P : Params} (T : Top hd.view_39 loose mean mg mb h) (K : (hd.heap_39 P).In h) : ∃ c Pp, Wc mg mb c Pp h ∧ Tab c Pp #[] h := by
  obtain ⟨a, o, pm, cd, doc, h1, h2, h3, h4⟩ := fn_of T f6
  obtain ⟨c, Pp, e, Bs⟩ := based_of_top T f6 h1 h2 h3
  have e' : cd = .ref c := e
  subst e'
  have G := glob_of K T.g (g_some P)
  have Bn' := bn_of K T.g T.builtins
  have TT : Tab c Pp #[] h := ⟨Bs.code, Bs.tab⟩
  exact ⟨c, Pp, ⟨⟨a, o, pm, doc, h1, h2, h3⟩, h4, ⟨_, TT⟩, Bs.notStatics, (G _).trans (g_fs P), (G _).trans (g_sp P), bmod_of_top T, T.nolimit, T.g, T.b, Bn'.len⟩, TT⟩
end Mine
set_option maxRecDepth 100000
set_option maxHeartbeats 4000000
namespace Mine
theorem ints_vals : ∀ {vs : List Value} {ns : List Int}, IntsAre vs ns → (∀ v ∈ vs, ∃ i t, v = Value.int i t) ∧ vs.length = ns.length
  | _, _, .nil => ⟨fun _ h => (nomatch h), rfl⟩
  | _, _, .cons n t h => by
    obtain ⟨h1, h2⟩ := ints_vals h
    refine ⟨fun v hv => ?_, by rw [List.length_cons, List.length_cons, h2]⟩
    rcases List.mem_cons.mp hv with rfl | hv
    · exact ⟨n, t, rfl⟩
    · exact h1 v hv
theorem t : PySem.Challenge.rw_rl0012_01.Holds := hd (by
  k_fill
  intro w s₀ s₁ mg mb G Y fa o pm cd doc dV kV ho hf hcd hD hmg hg args vals as hpre hlay hrd hwl hlo
  have KX := kIn_of Y
  refine Ground.open G ?_
  intro T B D TE TW
  clear D TE TW hmg
  wrow_args hpre hlay hrd hwl hlo
  refine enter_call ?_
  have he := Dflts.none hD rfl; subst he
  have he := Dflts.noKw hD; subst he
  clear Y hD G
  rename s₁.heap.IsList _ _ => hL
  rename IntsAre _ _ => hI
  rename ¬ ((63 : Nat) : Int) < _ => hc
  obtain ⟨hi, hl⟩ := ints_vals hI
  obtain ⟨c, P, C, Tb⟩ := wc_of T KX
  refine law_call ho (fd_plain hf) hcd (.of_eq hg) rfl (by decide) (by decide) (wld_of T B hL) (bn_of KX T.g T.builtins) hi (by rw [hl]; omega) C Tb fun ps' s' k1 k2 k3 k4 => ?_
  have hT : s'.heap.TableAt c P (#[] ++ ps') := by simpa using k2.tab
  exact ⟨.inl ⟨.bool true, .bool true, [], rfl, fun _ => rfl, .bool true, by wrow_post, fun _ => ⟨List.nodup_nil, fun _ h => (nomatch h)⟩⟩, (OldK.refl s₁.heap).step_table Tb.tab Tb.tab hT k1 C.pst, k4, k3⟩)
end Mine
theorem PySem.Challenge.cw_rl0012_01_holds : PySem.Challenge.rw_rl0012_01.Holds := by
  exact Mine.t
