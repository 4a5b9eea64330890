import PyProof.Rows.All
import Wide.All
import OpenK.AllK
import Wide.FinOn
import Open.Tops
import Lean
import PySem.Challenge.RW_ux0013_01
open PySem PySem.W PyProof.Rows
set_option Elab.async false
set_option maxRecDepth 100000
set_option maxHeartbeats 8000000
set_option rowWalk.seconds 0
namespace Mine
open_shared sh for PySem.Challenge.rw_ux0013_01.prog leaving 14
open_top hd for PySem.Challenge.rw_ux0013_01
local macro_rules | `(tactic| walk_at $s:str) => `(tactic| k_extra $s)
section
section
variable {α : Type} {a b c d i k r t p : α} {l n : List α}
theorem mem_s4 (h : p ∈ a :: b :: c :: d :: l) : p ∈ [a, b, c, d] ∨ p ∈ l := (List.mem_append (s := [a, b, c, d]) (t := l)).mp h
theorem mem_s3 (h : p ∈ a :: b :: c :: l) : p ∈ [a, b, c] ∨ p ∈ l := (List.mem_append (s := [a, b, c]) (t := l)).mp h
theorem mem_s2 (h : p ∈ a :: b :: l) : p ∈ [a, b] ∨ p ∈ l := (List.mem_append (s := [a, b]) (t := l)).mp h
theorem mem_nd (h : p ∈ [r, t]) : p ∈ i :: k :: c :: r :: t :: l := .tail _ (.tail _ (.tail _ (List.mem_append_left l h)))
theorem mem_t5 (h : p ∈ l) : p ∈ i :: k :: c :: r :: t :: l := .tail _ (.tail _ (.tail _ (.tail _ (.tail _ h))))
theorem mem_rest (h : p ∈ i :: k :: c :: l) : p ∈ i :: k :: c :: r :: t :: l := (mem_s3 h).elim (fun h => List.mem_append_left (r :: t :: l) h) fun h => mem_t5 h
theorem mem_back (h : p ∈ i :: k :: c :: r :: t :: (n ++ l)) : p ∈ r :: t :: n ++ (i :: k :: c :: l) := (mem_s3 h).elim (fun h => List.mem_append_right _ (List.mem_append_left l h)) fun h => (mem_s2 h).elim (fun h => List.mem_append_left _ (List.mem_append_left n h))
  fun h => (List.mem_append.mp h).elim (fun h => List.mem_append_left _ (.tail _ (.tail _ h))) fun h => List.mem_append_right _ (.tail _ (.tail _ (.tail _ h)))
end
theorem shut {G : Prop} (h : ∀ X : Prop, (G → X) → X) : G := h G id
theorem unit0 {u a c : Nat} (h : u + a < c) : u < c := Nat.lt_of_le_of_lt (Nat.le_add_right _ _) h
theorem unit1 {u a b c : Nat} (h : u + a < c) (e : Nat.ble b a = true) : u + b < c := Nat.lt_of_le_of_lt (Nat.add_le_add_left (Nat.le_of_ble_eq_true e) _) h
theorem unit2 {u x a b c : Nat} (h : u + a < c) (e : Nat.ble (x + b) a = true) : u + x + b < c := by rw [Nat.add_assoc]; exact unit1 h e
theorem unit3 {u x y a b c : Nat} (h : u + a < c) (e : Nat.ble (x + y + b) a = true) : u + x + y + b < c := by rw [Nat.add_assoc u x y]; exact unit2 h e
noncomputable def Kept (g h : Heap) : Prop := ∀ b o, g.get? b = some o → h.get? b = some o
noncomputable def Off (g : Heap) (nx : List (Addr × Obj)) : Prop := ∀ q ∈ nx, g.get? q.1 = none
noncomputable def sans (h : Heap) (need : List (Addr × Obj)) : Heap := hideAll h (need.map (·.1))
theorem sans_of {h : Heap} {need : List (Addr × Obj)} {b : Addr} {o : Obj} (e : (sans h need).get? b = some o) : h.get? b = some o := of_hideAll _ e
theorem sans_get {h : Heap} {need : List (Addr × Obj)} {b : Addr} {o : Obj} (e : h.get? b = some o) (n : ∀ p ∈ need, b ≠ p.1) : (sans h need).get? b = some o :=
  hideAll_get _ e fun q => by
    obtain ⟨p, hp, rfl⟩ := List.mem_map.mp q
    exact n p hp rfl
theorem sans_fr {h h₁ : Heap} {need : List (Addr × Obj)} {m : Str → Option Value} (ns : h₁.Ns h.objs.size m) (keep : ∀ b o, h.get? b = some o → h₁.get? b = some o) : Fr (sans h need) h.objs.size h₁ m := ⟨ns, fun b o e => keep b o (sans_of e), Nat.le_of_eq (hideAll_size _ _)⟩
theorem sans_news {h₀ h h₁ : Heap} {L : Addr} {need : List (Addr × Obj)} (N : News h₀ L h need) (keep : ∀ b o, h.get? b = some o → h₁.get? b = some o) : News (sans h need) h.objs.size h₁ need := fun p hp =>
  ⟨keep _ _ (N p hp).1, Nat.ne_of_lt (Heap.lt_size (N p hp).1), hideAll_none _ (List.mem_map_of_mem hp)⟩
noncomputable def SpecK (b : Nat) (w : World) (f : Addr) (vs : List Value) (kw : List (Str × Value)) (P : Heap → Prop) (need : List (Addr × Obj)) (R : Value → List (Addr × Obj) → Prop) : Prop :=
  ∀ (p : Program) (loose : List Str) (mean : ExcName → Option Value) (mg mb : Str → Option Value) (dp un : Nat) (gd : Option (List Code)) (cn : Str) (cs : Scope) (a : Addr) (ccd : Value) (cl : List (Str × Addr)) (outer : List Env) (A₀ : Around) (base h₀ : Heap) (L : Addr) (m : Str → Option Value) (s : Shared) (Q E : Value → Shared → Prop),
    Below A₀ base outer h₀ → Fr h₀ L s.heap m → (hd.heap_39 w.params).In h₀ → News h₀ L s.heap need → P (sans s.heap need) → Top p loose mean mg mb h₀ → cs.kind = .function → dp + b < recursionLimit → un + 16 * b < cLine →
    (∀ (r : Value) (nx : List (Addr × Obj)) (h' : Heap) (tk' : Nat), Fr h₀ L h' m → News h₀ L h' nx → Kept (sans s.heap need) h' → Off (sans s.heap need) nx → R r nx → Q r { s with heap := h', toks := tk' }) →
    wpAny (model PySem.Challenge.rw_ux0013_01.row.prog w) (ktrTop dp un gd cn cs L a ccd cl outer) (call (.ref f) vs kw) Q E s
noncomputable abbrev Spec (b : Nat) (w : World) (f : Addr) (vs : List Value) (P : Heap → Prop) (need : List (Addr × Obj)) (R : Value → List (Addr × Obj) → Prop) : Prop := SpecK b w f vs [] P need R
theorem news_rest {h₀ h h' : Heap} {L : Addr} {news need rest nx : List (Addr × Obj)} (N : News h₀ L h news) (hr : ∀ p ∈ rest, p ∈ news ∧ ∀ q ∈ need, p.1 ≠ q.1) (K : Kept (sans h need) h') (N' : News h₀ L h' nx) : News h₀ L h' (nx ++ rest) := fun p hp => by
  rcases List.mem_append.mp hp with hp | hp
  · exact N' p hp
  · have n := N p (hr p hp).1
    exact ⟨K _ _ (sans_get n.1 (hr p hp).2), n.2⟩
theorem off_rest {h₀ h : Heap} {L : Addr} {news need rest nx : List (Addr × Obj)} (N : News h₀ L h news) (hr : ∀ p ∈ rest, p ∈ news ∧ ∀ q ∈ need, p.1 ≠ q.1) (O : Off (sans h need) nx) : ∀ q ∈ nx, ∀ p ∈ rest, q.1 ≠ p.1 := fun q hq p hp e => by
  have n := sans_get (N p (hr p hp).1).1 (hr p hp).2
  rw [← e, O q hq] at n
  cases n
theorem spec_use {b : Nat} {w : World} {f : Addr} {vs : List Value} {kw : List (Str × Value)} {P : Heap → Prop} {need : List (Addr × Obj)} {R : Value → List (Addr × Obj) → Prop} (news rest : List (Addr × Obj))
    {p : Program} {loose : List Str} {mean : ExcName → Option Value} {mg mb : Str → Option Value} {dp un : Nat} {gd : Option (List Code)} {cn : Str} {cs : Scope} {a : Addr} {ccd : Value} {cl : List (Str × Addr)} {outer : List Env} {A₀ : Around} {base h₀ : Heap} {L : Addr} {m : Str → Option Value} {s : Shared} {Q E : Value → Shared → Prop}
    (S : SpecK b w f vs kw P need R) (B : Below A₀ base outer h₀) (F : Fr h₀ L s.heap m) (X : (hd.heap_39 w.params).In h₀) (N : News h₀ L s.heap news) (T : Top p loose mean mg mb h₀) (hk : cs.kind = .function) (hdp : dp + b < recursionLimit) (hun : un + 16 * b < cLine)
    (hn : ∀ p ∈ need, p ∈ news) (hr : ∀ p ∈ rest, p ∈ news ∧ ∀ q ∈ need, p.1 ≠ q.1) (hp : P (sans s.heap need))
    (h : ∀ (r : Value) (nx : List (Addr × Obj)) (h' : Heap) (tk' : Nat), Fr h₀ L h' m → News h₀ L h' (nx ++ rest) → Kept (sans s.heap need) h' → (∀ q ∈ nx, ∀ p ∈ rest, q.1 ≠ p.1) → R r nx → Q r { s with heap := h', toks := tk' }) :
    wpAny (model PySem.Challenge.rw_ux0013_01.row.prog w) (ktrTop dp un gd cn cs L a ccd cl outer) (call (.ref f) vs kw) Q E s :=
  S _ _ _ _ _ _ _ _ _ _ _ _ _ _ _ _ _ _ _ _ _ _ B F X (fun p hp => N p (hn p hp)) hp T hk hdp hun fun r nx h' tk' F' N' K O hR => h r nx h' tk' F' (news_rest N hr K N') K (off_rest N hr O) hR
theorem news_right {h₀ h : Heap} {L : Addr} {nx news : List (Addr × Obj)} (N : News h₀ L h (nx ++ news)) : News h₀ L h news := fun p hp => N p (List.mem_append_right _ hp)
theorem spec_use0 {b : Nat} {w : World} {f : Addr} {vs : List Value} {kw : List (Str × Value)} {P : Heap → Prop} {R : Value → List (Addr × Obj) → Prop} {news : List (Addr × Obj)}
    {p : Program} {loose : List Str} {mean : ExcName → Option Value} {mg mb : Str → Option Value} {dp un : Nat} {gd : Option (List Code)} {cn : Str} {cs : Scope} {a : Addr} {ccd : Value} {cl : List (Str × Addr)} {outer : List Env} {A₀ : Around} {base h₀ : Heap} {L : Addr} {m : Str → Option Value} {s : Shared} {Q E : Value → Shared → Prop}
    (S : SpecK b w f vs kw P [] R) (B : Below A₀ base outer h₀) (F : Fr h₀ L s.heap m) (X : (hd.heap_39 w.params).In h₀) (N : News h₀ L s.heap news) (T : Top p loose mean mg mb h₀) (hk : cs.kind = .function) (hdp : dp + b < recursionLimit) (hun : un + 16 * b < cLine)
    (hp : P s.heap)
    (h : ∀ (r : Value) (nx : List (Addr × Obj)) (h' : Heap) (tk' : Nat), Fr h₀ L h' m → News h₀ L h' (nx ++ news) → Kept s.heap h' → (∀ q ∈ nx, ∀ p ∈ news, q.1 ≠ p.1) → R r nx → Q r { s with heap := h', toks := tk' }) :
    wpAny (model PySem.Challenge.rw_ux0013_01.row.prog w) (ktrTop dp un gd cn cs L a ccd cl outer) (call (.ref f) vs kw) Q E s :=
  spec_use news news S B F X N T hk hdp hun (fun _ hp => nomatch hp) (fun _ hp => ⟨hp, fun _ hq => nomatch hq⟩) hp h

section
variable {b : Nat} {w : World} {fa : Addr} {vs : List Value} {kw : List (Str × Value)} {P : Heap → Prop} {news : List (Addr × Obj)} {p : Program} {loose : List Str} {mean : ExcName → Option Value} {mg mb : Str → Option Value} {dp un : Nat} {gd : Option (List Code)} {cn : Str} {cs : Scope} {a : Addr} {ccd : Value} {cl : List (Str × Addr)} {outer : List Env} {A₀ : Around} {base h₀ : Heap} {L : Addr} {m : Str → Option Value} {s : Shared} {Q E : Value → Shared → Prop}
theorem spec_v0 {f : Tok → Value} (S : SpecK b w fa vs kw P [] (fun r _ => ∃ t, r = f t)) (B : Below A₀ base outer h₀) (F : Fr h₀ L s.heap m) (X : (hd.heap_39 w.params).In h₀) (N : News h₀ L s.heap news) (T : Top p loose mean mg mb h₀) (hk : cs.kind = .function) (hdp : dp + b < recursionLimit) (hun : un + 16 * b < cLine) (hp : P s.heap)
    (h : ∀ (t : Tok) (h' : Heap) (tk' : Nat), Fr h₀ L h' m → News h₀ L h' news → Q (f t) { s with heap := h', toks := tk' }) : wpAny (model PySem.Challenge.rw_ux0013_01.row.prog w) (ktrTop dp un gd cn cs L a ccd cl outer) (call (.ref fa) vs kw) Q E s :=
  spec_use0 S B F X N T hk hdp hun hp fun r nx h' tk' F' N' _ _ hR => by obtain ⟨t, rfl⟩ := hR; exact h t h' tk' F' (news_right N')
theorem spec_v1 {f : Tok → Value} (S : SpecK b w fa vs kw P [] (fun r nx => nx = [] ∧ ∃ t, r = f t)) (B : Below A₀ base outer h₀) (F : Fr h₀ L s.heap m) (X : (hd.heap_39 w.params).In h₀) (N : News h₀ L s.heap news) (T : Top p loose mean mg mb h₀) (hk : cs.kind = .function) (hdp : dp + b < recursionLimit) (hun : un + 16 * b < cLine) (hp : P s.heap)
    (h : ∀ (t : Tok) (h' : Heap) (tk' : Nat), Fr h₀ L h' m → News h₀ L h' news → Q (f t) { s with heap := h', toks := tk' }) : wpAny (model PySem.Challenge.rw_ux0013_01.row.prog w) (ktrTop dp un gd cn cs L a ccd cl outer) (call (.ref fa) vs kw) Q E s :=
  spec_use0 S B F X N T hk hdp hun hp fun r nx h' tk' F' N' _ _ hR => by obtain ⟨_, t, rfl⟩ := hR; exact h t h' tk' F' (news_right N')
theorem spec_t {o : Tok → Tok → Obj} (S : SpecK b w fa vs kw P [] (fun r nx => ∃ a t t', r = .ref a ∧ nx = [(a, o t t')])) (B : Below A₀ base outer h₀) (F : Fr h₀ L s.heap m) (X : (hd.heap_39 w.params).In h₀) (N : News h₀ L s.heap news) (T : Top p loose mean mg mb h₀) (hk : cs.kind = .function) (hdp : dp + b < recursionLimit) (hun : un + 16 * b < cLine) (hp : P s.heap)
    (h : ∀ (a : Addr) (t t' : Tok) (h' : Heap) (tk' : Nat), Fr h₀ L h' m → News h₀ L h' ((a, o t t') :: news) → (∀ q ∈ [(a, o t t')], ∀ p ∈ news, q.1 ≠ p.1) → Q (.ref a) { s with heap := h', toks := tk' }) : wpAny (model PySem.Challenge.rw_ux0013_01.row.prog w) (ktrTop dp un gd cn cs L a ccd cl outer) (call (.ref fa) vs kw) Q E s :=
  spec_use0 S B F X N T hk hdp hun hp fun r nx h' tk' F' N' _ O' hR => by obtain ⟨a, t, t', rfl, rfl⟩ := hR; exact h a t t' h' tk' F' N' O'
end

theorem storeX_M {M : Model} {A : Around} {E : Value → Shared → Prop} {s : Shared} {h₀ : Heap} {L a : Addr} {m : Str → Option Value} {cn : Str} {cs : Scope} {ccd : Value} {cl : List (Str × Addr)} {x : Str} {v : Value} {Q : Unit → Shared → Prop} {news : List (Addr × Obj)}
    (F : Fr h₀ L s.heap m) (N : News h₀ L s.heap news)
    (h : ∀ h', let m' := fun y => if y = x then some v else m y; Fr h₀ L h' m' → News h₀ L h' news → Q () { s with heap := h', toks := s.toks + 1 })
    (hk : cs.kind = .function := by rfl) (hx : (envX cn cs L a ccd cl).kindOf x = some .local := by rfl) : wpAny M A (storeName (envX cn cs L a ccd cl) x v) Q E s := storeX_L F N h hk hx
noncomputable def LeaveM (g : Heap) (R : List (Addr × Obj) → Value → Shared → Prop) (v : Value) (s' : Shared) : Prop :=
  ∃ L' m' nx, Fr g L' s'.heap m' ∧ News g L' s'.heap nx ∧ R nx v s'
theorem leaveM_ {g : Heap} {L' : Addr} {m' : Str → Option Value} {nx : List (Addr × Obj)} {R : List (Addr × Obj) → Value → Shared → Prop} {v : Value} {s' : Shared} (F' : Fr g L' s'.heap m') (N' : News g L' s'.heap nx) (k : R nx v s') : LeaveM g R v s' := ⟨L', m', nx, F', N', k⟩
noncomputable def Owed (h₀ g : Heap) (L : Addr) (m : Str → Option Value) (Q : Value → Shared → Prop) (nx : List (Addr × Obj)) (v : Value) (s' : Shared) : Prop :=
  Fr h₀ L s'.heap m → News h₀ L s'.heap nx → Kept g s'.heap → Off g nx → Q v s'

theorem spec_ret {h₀ g G h' : Heap} {L : Addr} {m : Str → Option Value} {s : Shared} {R : Value → List (Addr × Obj) → Prop} {Q : Value → Shared → Prop} {r : Value} {nx : List (Addr × Obj)} {tk' : Nat}
    (hret : ∀ (r : Value) (nx : List (Addr × Obj)) (h' : Heap) (tk' : Nat), Fr h₀ L h' m → News h₀ L h' nx → Kept G h' → Off G nx → R r nx → Q r { s with heap := h', toks := tk' })
    (hg : g = G) (F : Fr h₀ L h' m) (N : News h₀ L h' nx) (K : Kept g h') (O : Off g nx) (hR : R r nx) : Q r { s with heap := h', toks := tk' } := by
  subst hg
  exact hret r nx h' tk' F N K O hR

section
variable {prog : Program} {w : World} {A A₀ : Around} {s : Shared} {K : Frag} {L : Addr} {h₀ base : Heap} {m mg mb : Str → Option Value} {need : List (Addr × Obj)} {p : Program} {loose : List Str} {mean : ExcName → Option Value}
  {env : Env} {outer : List Env} {Q E : Value → Shared → Prop} {name qual : Str} {params : Arguments} {body : List Stmt} {scope : Scope} {dV kV doc pm cdv ct oc : Value} {an od : Option Addr} {osl : Array (Option Value)} {f : Addr} {args : Args} {binds : List (Str × Value)}
theorem owed_end (B : Below A₀ base outer h₀) (F : Fr h₀ L s.heap m) (N : News h₀ L s.heap need) (hA : A.frames = some (env :: outer)) (hf : env.frame = some L) (hke : env.scope.kind = .function) {v : Value} {s' : Shared}
    (h : LeaveM (sans s.heap need) (Owed h₀ (sans s.heap need) L m Q) v s') : Q v s' := by
  obtain ⟨_, _, _, lv⟩ := groundX (R := fun r s' => ∀ v, r = .ok (.ret v) → Q v s') B F N hA hf hke
  obtain ⟨L', m', nx, F', N', k⟩ := h
  exact lv v s' ⟨L', m', nx, F', N', fun kF kN v' e => by cases e; exact k kF kN F'.keep fun q hq => (N' q hq).2.2⟩ v rfl
theorem enterM (B : Below A₀ base outer h₀) (F : Fr h₀ L s.heap m) (X₀ : K.In h₀) (N : News h₀ L s.heap need) (T : Top p loose mean mg mb h₀) (hA : A.frames = some (env :: outer)) (hf : env.frame = some L) (hke : env.scope.kind = .function)
    (ho : K.lookup f = some ⟨oc, od, .func (fnOf name qual params body scope dV kV doc pm an cdv ct), osl⟩) (hcd : codeIn K cdv qual = true) (hroom : A.depth < recursionLimit)
    (hbind : BindsTo s (fnOf name qual params body scope dV kV doc pm an cdv ct) args binds) (hloc : ∀ y ∈ binds, scope.names.lookup y.1 = some .local)
    (h : ∀ g L' h₁, g = sans s.heap need → Fr g L' h₁ (fun y => binds.reverse.lookup y) → News g L' h₁ need → Below A base (env :: outer) g → K.In g → Top p loose mean mg mb g →
      wpAny (model prog w) (A.deeper (envOf qual scope L' f cdv)) (execs body (envOf qual scope L' f cdv))
        (fun fl s' => LeaveM g (Owed h₀ g L m Q) (match fl with | .ret v => v | _ => .none) s')
        (fun e s' => wpAny (model prog w) (A.deeper (envOf qual scope L' f cdv)) («leaving» (envOf qual scope L' f cdv) e) (fun _ s'' => E e s'') (fun e' s'' => E e' s'') s')
        { s with heap := h₁, toks := s.toks + binds.length })
    (hco : scope.isCoroutine = false) (hgen : scope.isGenerator = false) (hk : scope.kind = .function)
    (hcell : ∀ x ∈ scope.names, x.2 ≠ .cell) : wpAny (model prog w) A (call (.ref f) args.pos args.kw) Q E s := by
  obtain ⟨_, BG, st, _⟩ := groundX (R := fun _ _ => True) B F N hA hf hke
  refine wpAny_call (codeAny_call_def (fd := fnOf name qual params body scope dV kV doc pm an cdv ct) (body := body) (binds := binds) hroom ((X₀.keeps F.keep) _ _ ho) rfl ((T.nolimit).keeps F.keep) (codeRec_of (X₀.keeps F.keep) hcd) rfl hbind hcell hloc (fun h₁ hns hk₁ => ?_) hco hgen hk)
  exact wpAny_mono (h _ s.heap.objs.size h₁ rfl (sans_fr hns hk₁) (sans_news N hk₁) BG (X₀.keeps st) (T.keeps st))
    (fun fl s' hl => owed_end B F N hA hf hke hl) fun _ _ y => y
theorem frame_led {s s' : Shared} {g : Heap} {L' : Addr} {m cm : Str → Option Value} {names : List (Str × NameKind)} (hL : L' = s.heap.objs.size) (x : InCallC s L' m (cellsFrom (L' + 1) names []) cm s') (hnd : ((cellsFrom 0 names []).map (·.1)).Nodup)
    (up : ∀ b o, g.get? b = some o → s.heap.get? b = some o) (sz : g.objs.size = s.heap.objs.size) :
    ∃ h₁ tk cells, s' = { s with heap := h₁, toks := tk } ∧ (∀ b o, s.heap.get? b = some o → h₁.get? b = some o) ∧ Fr g L' h₁ m ∧ News g L' h₁ cells ∧ CellsAre cm (cellsFrom (L' + 1) names []) cells := by
  have nd : ((cellsFrom (L' + 1) names []).map (·.1)).Nodup := cellsFrom_names names 0 (L' + 1) [] [] rfl ▸ hnd
  have above : g.objs.size ≤ L' := by rw [sz, hL]; exact Nat.le_refl _
  have keep := x.toInCall.keep
  obtain ⟨h₁, tk, e, _⟩ := x.done
  subst e
  obtain ⟨cells, NC, Y⟩ := Cl.news above fun n c hm => ⟨x.cell n c (lookup_of_mem_nodup nd hm), x.above n c hm⟩
  exact ⟨h₁, tk, cells, rfl, keep, ⟨x.toInCall.ns, fun b o e => keep b o (up b o e), above⟩, NC, Y⟩
theorem enterMC (B : Below A₀ base outer h₀) (F : Fr h₀ L s.heap m) (X₀ : K.In h₀) (N : News h₀ L s.heap need) (T : Top p loose mean mg mb h₀) (hA : A.frames = some (env :: outer)) (hf : env.frame = some L) (hke : env.scope.kind = .function)
    (ho : K.lookup f = some ⟨oc, od, .func (fnOf name qual params body scope dV kV doc pm an cdv ct), osl⟩) (hcd : codeIn K cdv qual = true) (hroom : A.depth < recursionLimit)
    (hbind : BindsTo s (fnOf name qual params body scope dV kV doc pm an cdv ct) args binds) (hkind : (binds.all fun y => scope.names.lookup y.1 == some .local || scope.names.lookup y.1 == some .cell) = true)
    (hnd : ((cellsFrom 0 scope.names []).map (·.1)).Nodup)
    (h : ∀ g L' h₁ tk cells, g = sans s.heap need → Fr g L' h₁ (bindL (envOfC qual scope L' f cdv).kindOf binds fun _ => none) → News g L' h₁ (cells ++ need) →
      CellsAre (bindC (envOfC qual scope L' f cdv).kindOf binds fun _ => none) (cellsFrom (L' + 1) scope.names []) cells → Below A base (env :: outer) g → K.In g → Top p loose mean mg mb g → (∀ p ∈ need, p.1 < L') →
      wpAny (model prog w) (A.deeper (envOfC qual scope L' f cdv)) (execs body (envOfC qual scope L' f cdv))
        (fun fl s' => LeaveM g (Owed h₀ g L m Q) (match fl with | .ret v => v | _ => .none) s')
        (fun e s' => wpAny (model prog w) (A.deeper (envOfC qual scope L' f cdv)) («leaving» (envOfC qual scope L' f cdv) e) (fun _ s'' => E e s'') (fun e' s'' => E e' s'') s')
        { s with heap := h₁, toks := tk })
    (hco : scope.isCoroutine = false) (hgen : scope.isGenerator = false) (hk : scope.kind = .function) : wpAny (model prog w) A (call (.ref f) args.pos args.kw) Q E s := by
  obtain ⟨_, BG, st, _⟩ := groundX (R := fun _ _ => True) B F N hA hf hke
  refine wpAny_call (codeAny_call_function (fd := fnOf name qual params body scope dV kV doc pm an cdv ct) (body := body) hroom ((X₀.keeps F.keep) _ _ ho) rfl hco hgen rfl (codeRec_of (X₀.keeps F.keep) hcd) (hbind _ _ _ _ ?_))
  refine wpAny_newFunctionEnv_cells hk (kindsX hkind _) fun env' he s' x => ?_
  subst he
  obtain ⟨h₁, tk, cells, rfl, keep, F₁, N₁, Y⟩ := frame_led (g := sans s.heap need) rfl x hnd (fun b o e => of_hideAll _ e) (hideAll_size _ _)
  exact ⟨((T.nolimit).keeps F.keep).keeps keep, codeAny_func (wpAny_mono (h _ _ h₁ tk cells rfl F₁ (N₁.append (sans_news N keep)) Y BG (X₀.keeps st) (T.keeps st) fun p hp => Heap.lt_size (N p hp).1)
    (fun fl s' hl => owed_end B F N hA hf hke hl) fun _ _ y => y)⟩
end
theorem lo_nat (i : Nat) : (0 + (i : Int)).toNat = i := congrArg Int.toNat (Int.zero_add _)
theorem min_part (a n : Nat) : min a n + (n - a + 1) = n + 1 := by omega
theorem fit_64 {n : Nat} (h : n < 64) : n ≤ 16777216 := Nat.le_trans (Nat.le_of_lt h) (by decide)
theorem meas1 {n j : Nat} (h : 5 + (j : Int) < ((n + 1 + 1 + 1 + 1 + 1 : Nat) : Int)) : n + 5 - (5 + (j : Int) + 1).toNat < n + 5 - (5 + (j : Int)).toNat := by
  have h' : 5 + j < n + 5 := Int.ofNat_lt.mp h
  exact Nat.sub_lt_sub_left h' (Nat.lt_succ_self _)
theorem meas2 {n j : Nat} (h : 5 + (j : Int) < ((n + 1 + 1 + 1 + 1 + 1 : Nat) : Int)) : n + 5 - (5 + (j : Int) + 1 + 1).toNat < n + 5 - (5 + (j : Int)).toNat := by
  have h' : 5 + j < n + 5 := Int.ofNat_lt.mp h
  exact Nat.sub_lt_sub_left h' (Nat.lt_succ_of_lt (Nat.lt_succ_self _))
theorem meas3 {n : Nat} {f : Int} (h0 : 0 ≤ f) (h : f.toNat < n) : n - (f + 1).toNat < n - f.toNat := by
  obtain ⟨k, rfl⟩ := Int.eq_ofNat_of_zero_le h0
  exact Nat.sub_lt_sub_left h (Nat.lt_succ_self _)
theorem int_eq {x y : Int} {t : Tok} (h : x = y) : Value.int x t = Value.int y t := by rw [h]
theorem and_cast (a b : Nat) : Builtin.bitAnd (a : Int) (b : Int) = ((a &&& b : Nat) : Int) := rfl
theorem xor_sum : ∀ (n a b : Nat), a ≤ n → (a ^^^ b) + 2 * (a &&& b) = a + b := by
  intro n
  induction n with
  | zero => intro a b h; have : a = 0 := by omega
            subst this; simp
  | succ n ih =>
    intro a b h
    by_cases h0 : a = 0
    · subst h0; simp
    have := ih (a / 2) (b / 2) (by omega)
    have e1 : (a ^^^ b) / 2 = a / 2 ^^^ b / 2 := Nat.xor_div_two
    have e2 : (a &&& b) / 2 = a / 2 &&& b / 2 := Nat.and_div_two
    have e3 : (a ^^^ b) % 2 = 1 ↔ ¬ (a % 2 = 1 ↔ b % 2 = 1) := Nat.xor_mod_two_eq_one
    have e4 : (a &&& b) % 2 = 1 ↔ a % 2 = 1 ∧ b % 2 = 1 := Nat.and_mod_two_eq_one
    rw [e1.symm, e2.symm] at this
    have a2 := Nat.mod_two_eq_zero_or_one a
    have b2 := Nat.mod_two_eq_zero_or_one b
    have f3 := Nat.div_add_mod (a ^^^ b) 2
    have f4 := Nat.div_add_mod (a &&& b) 2
    have fa := Nat.div_add_mod a 2
    have fb := Nat.div_add_mod b 2
    have g : (a ^^^ b) % 2 + 2 * ((a &&& b) % 2) = a % 2 + b % 2 := by
      rcases Nat.mod_two_eq_zero_or_one (a ^^^ b) with x | x <;> rcases Nat.mod_two_eq_zero_or_one (a &&& b) with y | y <;> rcases a2 with u | u <;> rcases b2 with v | v <;> rw [x, u, v] at e3 <;> rw [y, u, v] at e4 <;> rw [x, y, u, v] <;> revert e3 e4 <;> decide
    clear e1 e2 e3 e4 a2 b2
    omega
theorem xor_cast (a b : Nat) : Builtin.bitXor (a : Int) (b : Int) = ((a ^^^ b : Nat) : Int) := by
  rw [bitXor_and, and_cast]
  have := xor_sum a a b (Nat.le_refl _)
  omega
theorem or_sum (a b : Nat) : (a ||| b) + (a &&& b) = a + b := by
  have h1 := xor_sum a a b (Nat.le_refl _)
  have h2 := xor_sum _ (a ^^^ b) (a &&& b) (Nat.le_refl _)
  have e1 : (a ^^^ b) ^^^ (a &&& b) = a ||| b := by
    apply Nat.eq_of_testBit_eq; intro i; simp [Nat.testBit_xor, Nat.testBit_and, Nat.testBit_or]
    cases a.testBit i <;> cases b.testBit i <;> rfl
  have e2 : (a ^^^ b) &&& (a &&& b) = 0 := by
    apply Nat.eq_of_testBit_eq; intro i; simp [Nat.testBit_xor, Nat.testBit_and]
    cases a.testBit i <;> cases b.testBit i <;> simp
  rw [e1, e2] at h2
  omega
theorem or_cast (a b : Nat) : Builtin.bitOr (a : Int) (b : Int) = ((a ||| b : Nat) : Int) := by
  rw [bitOr_and, and_cast]
  have := or_sum a b
  omega
theorem fdiv_cast (a b : Nat) : Int.fdiv (a : Int) (b : Int) = ((a / b : Nat) : Int) := by
  rw [Int.fdiv_eq_ediv_of_nonneg _ (by omega)]; rfl
theorem fmod_cast (a b : Nat) : Int.fmod (a : Int) (b : Int) = ((a % b : Nat) : Int) := by
  rw [Int.fmod_eq_emod_of_nonneg _ (by omega)]; rfl
end
-- the rooms by the caller's own; a def's call entered with the ledger it needs; its end
local macro_rules | `(tactic| k_room) => `(tactic| walk_at "mine units")
local macro_rules | `(tactic| k_units) => `(tactic| walk_at "mine units")
local macro_rules | `(tactic| k_ne) => `(tactic| (refine neN ?_; walk_at "mine ne"))
section
noncomputable def timesTo (one other : Nat) : Nat → Nat
  | 0 => 0
  | k + 1 => if other / 2 ^ k % 2 = 1 then timesTo one other k ^^^ one * 2 ^ k else timesTo one other k
theorem bit_cast (n : Nat) (k : Nat) : Int.fmod (Int.fdiv (n : Int) (2 ^ k)) 2 = ((n / 2 ^ k % 2 : Nat) : Int) := by
  have e : (2 : Int) ^ k = ((2 ^ k : Nat) : Int) := by rw [Int.natCast_pow]; rfl
  rw [e, fdiv_cast]
  exact fmod_cast _ 2
theorem mul_cast (n k : Nat) : (n : Int) * 2 ^ k = ((n * 2 ^ k : Nat) : Int) := by
  rw [Int.natCast_mul, Int.natCast_pow]; rfl
theorem times_yes {one other : Nat} {pre : List Int} {k md : Int} (hk : k = 0 + (pre.length : Int)) (hi : md = ((timesTo one other pre.length : Nat) : Int))
    (hb : Int.fmod (Int.fdiv (other : Int) (2 ^ k.toNat)) 2 = 1) : Builtin.bitXor md ((one : Int) * 2 ^ k.toNat) = ((timesTo one other (pre ++ [k]).length : Nat) : Int) := by
  have ek : k.toNat = pre.length := by rw [hk]; exact lo_nat _
  rw [ek, bit_cast] at hb
  rw [ek, hi, mul_cast, xor_cast, List.length_append, List.length_singleton, timesTo, if_pos (by omega)]
theorem times_no {one other : Nat} {pre : List Int} {k md : Int} (hk : k = 0 + (pre.length : Int)) (hi : md = ((timesTo one other pre.length : Nat) : Int))
    (hb : Int.fmod (Int.fdiv (other : Int) (2 ^ k.toNat)) 2 ≠ 1) : md = ((timesTo one other (pre ++ [k]).length : Nat) : Int) := by
  have ek : k.toNat = pre.length := by rw [hk]; exact lo_nat _
  rw [ek, bit_cast] at hb
  rw [hi, List.length_append, List.length_singleton, timesTo, if_neg (by omega)]

theorem times_spec (w : World) (one other : Nat) (t1 t2 : Tok) (h1 : one < 2^20) :
    Spec 4 w 110 [.int one t1, .int other t2] (fun _ => True) [] (fun r nx => nx = [] ∧ ∃ t, r = .int (timesTo one other 7 : Nat) t) := by
  unfold Spec SpecK
  k_fill
  intro p loose mean mg mb dp un gd cn cs a ccd cl outer A₀ base h₀ L m s Q E B F X N _ T hk hdp hun hret
  w_on
  k_with_none
  k_with "pyIter ref" => k_dflt (k_state_short (fun pre md => md = ((timesTo one other pre.length : Nat) : Int)) "made")
  k_with "state" => first | exact rfl | exact times_yes (by assumption) (by assumption) (by assumption) | exact times_no (by assumption) (by assumption) (by assumption)
  k_with "mine enter" => (k_dflt (refine' enterM (args := ⟨_, _⟩) ?zq1B ?zq1F ?zq1X ?zq1N ?zq1T ?zq1kA ?zq1kF ?zq1kK ?zq1k6 ?zq1k7 ?zq1k8 ?zq1k9 ?zq1kB ?_ ?zq1c2 ?zq1c3 ?zq1c4 ?zq1c5; (case zq1kA => exact rfl); (case zq1kF => exact rfl); (case zq1kK => assumption); (case zq1B => k_asm); (case zq1F => k_asm); (case zq1X => k_asm); (case zq1N => k_asm); (case zq1T => k_asm); (case zq1k6 => k_is); (case zq1k7 => k_is); (case zq1k8 => walk_at "mine units"); (case zq1k9 => first | exact BindsTo.of_eq rfl | exact binds_K (by k_in) rfl (by k_is) rfl rfl rfl); (case zq1c5 => decide); (case zq1kB => exact locs rfl); (case zq1c2 => exact rfl); (case zq1c3 => exact rfl); (case zq1c4 => exact rfl); k_whole; intro g' L' h' hg' F' N' B' X' T'; (try dsimp only); (try k_fold)))
  k_with "LeaveM" => ((k_dflt (refine' leaveM_ ?zq3k1 ?zq3k2 ?_; (case zq3k1 => k_asm); (case zq3k2 => k_asm); k_whole); intro kF kN kK kO))
  k_with "execs cons" => (k_fold)
  k_with "storeName" => (dsimp only)
  k_with "newList" => (dsimp only)
  k_with "newTuple" => (dsimp only)
  k_with "truthy bool" => (dsimp only)
  k_with "spliced" => (dsimp only)
  k_with "callWith ref" => (dsimp only)
  k_with "compareOp" => (dsimp only)
  k_with "call ref" => (dsimp only)
  k_with "mine units" => (k_dflt (first | exact unit0 (by assumption) | exact unit1 (by assumption) (by exact rfl) | exact unit2 (by assumption) (by exact rfl) | exact unit3 (by assumption) (by exact rfl) | decide))
  k_with "mine and" => ((first | with_reducible assumption | (apply And.right; first | with_reducible assumption | (apply And.right; first | with_reducible assumption | (apply And.right; first | with_reducible assumption | (apply And.right; first | with_reducible assumption | (apply And.right; first | with_reducible assumption | (apply And.right; first | with_reducible assumption | (apply And.right; first | with_reducible assumption | (apply And.right; with_reducible assumption))))))))))
  k_with "mine in" => (first | (apply And.left; walk_at "mine and") | walk_at "mine and")
  k_with "mine ne" => ((try dsimp only); first | (apply Nat.ne_of_lt; walk_at "mine in") | (apply Nat.ne_of_gt; walk_at "mine in") | walk_at "mine in" | (apply Ne.symm; walk_at "mine in"))
  walk_at "mine enter"
  k_steps
  exact spec_ret hret (by assumption) (by assumption) (by assumption) (by assumption) (by assumption) ⟨rfl, _, int_eq (by assumption)⟩

noncomputable def bl (n : Nat) : Nat := if n = 0 then 0 else Nat.log2 n + 1
theorem bl_lt {n k : Nat} (h : 2 ^ k ≤ n) : k < bl n := by
  unfold bl
  have h0 : n ≠ 0 := by
    have := Nat.two_pow_pos k
    omega
  rw [if_neg h0]
  have := (Nat.le_log2 h0).mpr h
  omega
theorem bl_le {n k : Nat} (h : n < 2 ^ k) : bl n ≤ k := by
  unfold bl
  split
  · omega
  · rename_i h0
    have := (Nat.log2_lt h0).mpr h
    omega
theorem pow_cast (k : Nat) : (2 : Int) ^ k = ((2 ^ k : Nat) : Int) := by rw [Int.natCast_pow]; rfl
theorem size_yes {n : Nat} {sz : Int} (_h0 : 0 ≤ sz) (hb : (2 : Int) ^ sz.toNat ≤ (n : Int)) : sz.toNat < bl n := by
  rw [pow_cast] at hb
  exact bl_lt (by omega)
theorem size_no {n : Nat} {sz : Int} (h0 : 0 ≤ sz) (hi : sz ≤ (bl n : Int)) (hb : ¬ (2 : Int) ^ sz.toNat ≤ (n : Int)) : sz = (bl n : Int) := by
  rw [pow_cast] at hb
  have := @bl_le n sz.toNat (by omega)
  omega
theorem size_turn {n : Nat} {sz : Int} (h0 : 0 ≤ sz) (h : sz.toNat < bl n) : 0 ≤ sz + 1 ∧ sz + 1 ≤ (bl n : Int) := by
  obtain ⟨k, rfl⟩ := Int.eq_ofNat_of_zero_le h0
  exact ⟨Int.natCast_nonneg (k + 1), Int.ofNat_le.mpr h⟩
theorem bl_small {n k : Nat} (h : n < 2 ^ k) : bl n ≤ k := bl_le h

theorem size_spec (w : World) (n : Nat) (t1 : Tok) (h1 : n < 2^40) :
    Spec 4 w 136 [.int n t1] (fun _ => True) [] (fun r nx => nx = [] ∧ ∃ t, r = .int (bl n : Nat) t) := by
  unfold Spec SpecK
  k_fill
  intro p loose mean mg mb dp un gd cn cs a ccd cl outer A₀ base h₀ L m s Q E B F X N _ T hk hdp hun hret
  w_on
  k_with_none
  have hbl := bl_small h1
  k_with "exec While Compare cons nil" => k_dflt (k_while (fun _ sz => 0 ≤ sz ∧ sz ≤ (bl n : Int)) (fun _ sz => bl n - sz.toNat) "size")
  k_with "state" => first | exact ⟨Int.le_refl 0, Int.natCast_nonneg _⟩ | exact size_turn (by assumption) (size_yes (by assumption) (by assumption))
  k_with "measure" => exact meas3 (by assumption) (size_yes (by assumption) (by assumption))
  k_with "mine enter" => (k_dflt (refine' enterM (args := ⟨_, _⟩) ?zq1B ?zq1F ?zq1X ?zq1N ?zq1T ?zq1kA ?zq1kF ?zq1kK ?zq1k6 ?zq1k7 ?zq1k8 ?zq1k9 ?zq1kB ?_ ?zq1c2 ?zq1c3 ?zq1c4 ?zq1c5; (case zq1kA => exact rfl); (case zq1kF => exact rfl); (case zq1kK => assumption); (case zq1B => k_asm); (case zq1F => k_asm); (case zq1X => k_asm); (case zq1N => k_asm); (case zq1T => k_asm); (case zq1k6 => k_is); (case zq1k7 => k_is); (case zq1k8 => walk_at "mine units"); (case zq1k9 => first | exact BindsTo.of_eq rfl | exact binds_K (by k_in) rfl (by k_is) rfl rfl rfl); (case zq1c5 => decide); (case zq1kB => exact locs rfl); (case zq1c2 => exact rfl); (case zq1c3 => exact rfl); (case zq1c4 => exact rfl); k_whole; intro g' L' h' hg' F' N' B' X' T'; (try dsimp only); (try k_fold)))
  k_with "LeaveM" => ((k_dflt (refine' leaveM_ ?zq3k1 ?zq3k2 ?_; (case zq3k1 => k_asm); (case zq3k2 => k_asm); k_whole); intro kF kN kK kO))
  k_with "execs cons" => (k_fold)
  k_with "storeName" => (dsimp only)
  k_with "newList" => (dsimp only)
  k_with "newTuple" => (dsimp only)
  k_with "truthy bool" => (dsimp only)
  k_with "spliced" => (dsimp only)
  k_with "callWith ref" => (dsimp only)
  k_with "compareOp" => (dsimp only)
  k_with "call ref" => (dsimp only)
  k_with "mine units" => (k_dflt (first | exact unit0 (by assumption) | exact unit1 (by assumption) (by exact rfl) | exact unit2 (by assumption) (by exact rfl) | exact unit3 (by assumption) (by exact rfl) | decide))
  k_with "mine and" => ((first | with_reducible assumption | (apply And.right; first | with_reducible assumption | (apply And.right; first | with_reducible assumption | (apply And.right; first | with_reducible assumption | (apply And.right; first | with_reducible assumption | (apply And.right; first | with_reducible assumption | (apply And.right; first | with_reducible assumption | (apply And.right; first | with_reducible assumption | (apply And.right; with_reducible assumption))))))))))
  k_with "mine in" => (first | (apply And.left; walk_at "mine and") | walk_at "mine and")
  k_with "mine ne" => ((try dsimp only); first | (apply Nat.ne_of_lt; walk_at "mine in") | (apply Nat.ne_of_gt; walk_at "mine in") | walk_at "mine in" | (apply Ne.symm; walk_at "mine in"))
  walk_at "mine enter"
  k_steps
  exact spec_ret hret (by assumption) (by assumption) (by assumption) (by assumption) (by assumption) ⟨rfl, _, int_eq (size_no (by assumption) (by assumption) (by assumption))⟩

noncomputable def partStep (part : Nat) (c : Nat × Nat) (k : Nat) : Nat × Nat := if c.1 ^^^ part * 2 ^ k < c.1 then (c.1 ^^^ part * 2 ^ k, c.2 + 2 ^ k) else c
noncomputable def partTo (whole part : Nat) : Nat → Nat × Nat
  | 0 => (whole, 0)
  | k + 1 => partStep part (partTo whole part k) (6 - k)

theorem part_yes {whole part : Nat} {pre : List Int} {k wh of : Int} (hk : k = 6 - (pre.length : Int)) (_hl : pre.length < (6 - -1 : Int).toNat)
    (h1 : wh = ((partTo whole part pre.length).1 : Int)) (h2 : of = ((partTo whole part pre.length).2 : Int)) (hb : Builtin.bitXor wh ((part : Int) * 2 ^ k.toNat) < wh) :
    Builtin.bitXor wh ((part : Int) * 2 ^ k.toNat) = ((partTo whole part (pre ++ [k]).length).1 : Int) ∧ of + 2 ^ k.toNat = ((partTo whole part (pre ++ [k]).length).2 : Int) := by
  have ek : k.toNat = 6 - pre.length := by rw [hk]; exact Int.toNat_sub 6 _
  rw [ek, h1, mul_cast, xor_cast] at hb ⊢
  rw [List.length_append, List.length_singleton, partTo, partStep, if_pos (by omega), h2, pow_cast]
  exact ⟨rfl, rfl⟩
theorem part_no {whole part : Nat} {pre : List Int} {k wh of : Int} (hk : k = 6 - (pre.length : Int)) (_hl : pre.length < (6 - -1 : Int).toNat)
    (h1 : wh = ((partTo whole part pre.length).1 : Int)) (h2 : of = ((partTo whole part pre.length).2 : Int)) (hb : ¬ Builtin.bitXor wh ((part : Int) * 2 ^ k.toNat) < wh) :
    wh = ((partTo whole part (pre ++ [k]).length).1 : Int) ∧ of = ((partTo whole part (pre ++ [k]).length).2 : Int) := by
  have ek : k.toNat = 6 - pre.length := by rw [hk]; exact Int.toNat_sub 6 _
  rw [ek, h1, mul_cast, xor_cast] at hb
  rw [List.length_append, List.length_singleton, partTo, partStep, if_neg (by omega)]
  exact ⟨h1, h2⟩
theorem tup_eq {x y x' y' : Int} {t t' : Tok} (h : x = x') (h' : y = y') : ({ cls := .type "tuple", data := .seq #[.int x t, .int y t'] } : Obj) = { cls := .type "tuple", data := .seq #[.int x' t, .int y' t'] } := by rw [h, h']
theorem led1_eq {a : Addr} {o o' : Obj} {news : List (Addr × Obj)} (h : o = o') : ((a, o) :: news) = ((a, o') :: news) := by rw [h]
theorem parted_spec (w : World) (whole part : Nat) (t1 t2 : Tok) (h2 : part < 2 ^ 20) :
    Spec 4 w 117 [.int whole t1, .int part t2] (fun _ => True) [] (fun r nx => ∃ a t t', r = .ref a ∧ nx = [(a, { cls := .type "tuple", data := .seq #[.int (partTo whole part 7).2 t, .int (partTo whole part 7).1 t'] })]) := by
  unfold Spec SpecK
  k_fill
  intro p loose mean mg mb dp un gd cn cs a ccd cl outer A₀ base h₀ L m s Q E B F X N _ T hk hdp hun hret
  w_on
  k_with_none
  k_with "pyIter ref" => k_dflt (k_state (fun pre wh of => wh = ((partTo whole part pre.length).1 : Int) ∧ of = ((partTo whole part pre.length).2 : Int)) "whole" "often")
  k_with "state" => first | exact ⟨rfl, rfl⟩ | exact part_yes (by assumption) (by assumption) (by assumption) (by assumption) (by assumption) | exact part_no (by assumption) (by assumption) (by assumption) (by assumption) (by assumption)
  k_with "mine enter" => (k_dflt (refine' enterM (args := ⟨_, _⟩) ?zq1B ?zq1F ?zq1X ?zq1N ?zq1T ?zq1kA ?zq1kF ?zq1kK ?zq1k6 ?zq1k7 ?zq1k8 ?zq1k9 ?zq1kB ?_ ?zq1c2 ?zq1c3 ?zq1c4 ?zq1c5; (case zq1kA => exact rfl); (case zq1kF => exact rfl); (case zq1kK => assumption); (case zq1B => k_asm); (case zq1F => k_asm); (case zq1X => k_asm); (case zq1N => k_asm); (case zq1T => k_asm); (case zq1k6 => k_is); (case zq1k7 => k_is); (case zq1k8 => walk_at "mine units"); (case zq1k9 => first | exact BindsTo.of_eq rfl | exact binds_K (by k_in) rfl (by k_is) rfl rfl rfl); (case zq1c5 => decide); (case zq1kB => exact locs rfl); (case zq1c2 => exact rfl); (case zq1c3 => exact rfl); (case zq1c4 => exact rfl); k_whole; intro g' L' h' hg' F' N' B' X' T'; (try dsimp only); (try k_fold)))
  k_with "LeaveM" => ((k_dflt (refine' leaveM_ ?zq3k1 ?zq3k2 ?_; (case zq3k1 => k_asm); (case zq3k2 => k_asm); k_whole); intro kF kN kK kO))
  k_with "execs cons" => (k_fold)
  k_with "storeName" => (dsimp only)
  k_with "newList" => (dsimp only)
  k_with "newTuple" => (dsimp only)
  k_with "truthy bool" => (dsimp only)
  k_with "spliced" => (dsimp only)
  k_with "callWith ref" => (dsimp only)
  k_with "compareOp" => (dsimp only)
  k_with "call ref" => (dsimp only)
  k_with "mine units" => (k_dflt (first | exact unit0 (by assumption) | exact unit1 (by assumption) (by exact rfl) | exact unit2 (by assumption) (by exact rfl) | exact unit3 (by assumption) (by exact rfl) | decide))
  k_with "mine and" => ((first | with_reducible assumption | (apply And.right; first | with_reducible assumption | (apply And.right; first | with_reducible assumption | (apply And.right; first | with_reducible assumption | (apply And.right; first | with_reducible assumption | (apply And.right; first | with_reducible assumption | (apply And.right; first | with_reducible assumption | (apply And.right; first | with_reducible assumption | (apply And.right; with_reducible assumption))))))))))
  k_with "mine in" => (first | (apply And.left; walk_at "mine and") | walk_at "mine and")
  k_with "mine ne" => ((try dsimp only); first | (apply Nat.ne_of_lt; walk_at "mine in") | (apply Nat.ne_of_gt; walk_at "mine in") | walk_at "mine in" | (apply Ne.symm; walk_at "mine in"))
  walk_at "mine enter"
  k_steps
  exact spec_ret hret (by assumption) (by assumption) (by assumption) (by assumption) (by assumption) ⟨_, _, _, rfl, led1_eq (tup_eq (by assumption) (by assumption))⟩
end
section
-- arithmetic of the division
theorem top_xor {x y j : Nat} (hx : x < 2 ^ (j + 1)) (h1 : 2 ^ j ≤ y) (h2 : y < 2 ^ (j + 1)) : (if x ^^^ y < x then x ^^^ y else x) < 2 ^ j := by
  have hy : y.testBit j = true := Nat.testBit_of_two_pow_le_and_two_pow_add_one_gt h1 h2
  by_cases h : x < 2 ^ j
  · have hxj : x.testBit j = false := Nat.testBit_lt_two_pow h
    have : (x ^^^ y).testBit j = true := by rw [Nat.testBit_xor, hxj, hy]; rfl
    have := Nat.ge_two_pow_of_testBit this
    rw [if_neg (by omega)]
    exact h
  · have hxj : x.testBit j = true := Nat.testBit_of_two_pow_le_and_two_pow_add_one_gt (by omega) hx
    have e : x ^^^ y < 2 ^ j := by
      refine Nat.lt_pow_two_of_testBit _ fun i hi => ?_
      rw [Nat.testBit_xor]
      by_cases he : i = j
      · subst he; rw [hxj, hy]; rfl
      · have hp : 2 ^ (j + 1) ≤ 2 ^ i := Nat.pow_le_pow_right (by decide) (by omega)
        rw [Nat.testBit_lt_two_pow (Nat.lt_of_lt_of_le hx hp), Nat.testBit_lt_two_pow (Nat.lt_of_lt_of_le h2 hp)]; rfl
    rw [if_pos (by omega)]
    exact e
theorem partStep_fst (part : Nat) (c : Nat × Nat) (k : Nat) : (partStep part c k).1 = if c.1 ^^^ part * 2 ^ k < c.1 then c.1 ^^^ part * 2 ^ k else c.1 := by
  unfold partStep; split <;> rfl
theorem part_lt {a b j : Nat} (h1 : 2 ^ j ≤ b) (h2 : b < 2 ^ (j + 1)) (ha : a < 2 ^ (j + 7)) : ∀ k, k ≤ 7 → (partTo a b k).1 < 2 ^ (j + (7 - k))
  | 0, _ => ha
  | k + 1, hk => by
    have ih := part_lt h1 h2 ha k (Nat.le_of_succ_le hk)
    rw [partTo, partStep_fst]
    have e1 : j + (7 - k) = (j + (6 - k)) + 1 := congrArg (j + ·) (Nat.succ_sub (Nat.le_of_succ_le_succ hk) : 7 - k = 6 - k + 1)
    have e2 : j + (7 - (k + 1)) = j + (6 - k) := congrArg (j + ·) (Nat.succ_sub_succ 6 k)
    rw [e1] at ih
    rw [e2]
    refine top_xor ih ?_ ?_
    · rw [Nat.pow_add]; exact Nat.mul_le_mul_right _ h1
    · rw [show j + (6 - k) + 1 = (j + 1) + (6 - k) from Nat.add_right_comm j (6 - k) 1, Nat.pow_add]; exact Nat.mul_lt_mul_of_pos_right h2 (Nat.two_pow_pos _)
noncomputable abbrev rem (a b : Nat) : Nat := (partTo a b 7).1
noncomputable abbrev quo (a b : Nat) : Nat := (partTo a b 7).2
theorem rem_lt {a b : Nat} (ha : a < 128) (hb : b ≠ 0) : rem a b < 2 ^ (Nat.log2 b) := by
  have h := @part_lt a b (Nat.log2 b) (Nat.log2_self_le hb) Nat.lt_log2_self (Nat.lt_of_lt_of_le ha (by rw [Nat.pow_add]; have := Nat.two_pow_pos (Nat.log2 b); omega)) 7 (Nat.le_refl _)
  exact h
theorem rem_bl {a b : Nat} (ha : a < 128) (hb : b ≠ 0) : bl (rem a b) < bl b := by
  have h1 := bl_le (rem_lt ha hb)
  have : bl b = Nat.log2 b + 1 := by unfold bl; rw [if_neg hb]
  omega
theorem rem_less {a b : Nat} (ha : a < 128) (hb : b ≠ 0) : rem a b < b := Nat.lt_of_lt_of_le (rem_lt ha hb) (Nat.log2_self_le hb)
noncomputable def gcdF : Nat → Nat → Nat → Nat
  | 0, a, _ => a
  | n + 1, a, b => if b = 0 then a else gcdF n b (rem a b)
theorem gcdF_fuel : ∀ (n m a b : Nat), bl b ≤ n → bl b ≤ m → a < 128 → b < 128 → gcdF n a b = gcdF m a b := by
  intro n
  induction n with
  | zero =>
    intro m a b h _ _ _
    have hb : b = 0 := by
      unfold bl at h
      split at h <;> omega
    subst hb
    cases m <;> rfl
  | succ n ih =>
    intro m a b h hm ha hb
    by_cases h0 : b = 0
    · subst h0; cases m <;> rfl
    · have hr := rem_bl ha h0
      cases m with
      | zero => omega
      | succ m =>
        rw [gcdF, gcdF, if_neg h0, if_neg h0]
        exact ih m b _ (by omega) (by omega) hb (Nat.lt_trans (rem_less ha h0) hb)
@[irreducible] noncomputable def common (a b : Nat) : Nat := gcdF 8 a b
theorem bl7 {b : Nat} (hb : b < 128) : bl b ≤ 7 := bl_le hb
theorem common_zero (a : Nat) : common a 0 = a := by unfold common; rfl
theorem common_step {a b : Nat} (ha : a < 128) (hb : b < 128) (h0 : b ≠ 0) : common a b = common b (rem a b) := by
  have hr := rem_bl ha h0
  have := bl7 hb
  unfold common
  rw [gcdF, if_neg h0]
  exact gcdF_fuel 7 8 _ _ (by omega) (by omega) hb (Nat.lt_trans (rem_less ha h0) hb)

theorem eof_mul {u : Int} {b : Nat} (hu : u = 1 ∨ u = -1) : u * (b : Int) = 0 ↔ b = 0 := by
  rcases hu with h | h <;> subst h <;> omega
theorem eof_no {u : Int} {b : Nat} (hu : u = 1 ∨ u = -1) (h : ((u * (b : Int) == 0) == false) = true) : b ≠ 0 := by
  intro hb
  rw [show (u * (b : Int) == 0) = true from beq_iff_eq.mpr ((eof_mul hu).mpr hb)] at h
  cases h
theorem eof_yes {u : Int} {b : Nat} (hu : u = 1 ∨ u = -1) (h : ((u * (b : Int) == 0) == false) = false) : b = 0 := by
  by_cases hb : b = 0
  · exact hb
  · rw [show (u * (b : Int) == 0) = false from by simp [eof_mul hu, hb]] at h
    cases h
theorem common_start {one other : Nat} (h1 : one < 128) (h2 : other < 128) : ((1 : Int) = 1 ∨ (1 : Int) = -1) ∧ ∃ a b : Nat, (one : Int) = (a : Int) ∧ (other : Int) = (b : Int) ∧ a < 128 ∧ b < 128 ∧ common a b = common one other :=
  ⟨Or.inl rfl, one, other, rfl, rfl, h1, h2, rfl⟩
theorem common_turn {one other a b : Nat} {u : Int} (hu : u = 1 ∨ u = -1) (ha : a < 128) (hb : b < 128) (hc : common a b = common one other) (h : ((u * (b : Int) == 0) == false) = true) :
    (-u = 1 ∨ -u = -1) ∧ ∃ a' b' : Nat, (b : Int) = (a' : Int) ∧ (((partTo a b 7).1 : Nat) : Int) = (b' : Int) ∧ a' < 128 ∧ b' < 128 ∧ common a' b' = common one other := by
  have h0 := eof_no hu h
  refine ⟨hu.elim (fun e => .inr (congrArg (- ·) e)) (fun e => .inl (congrArg (- ·) e)), b, rem a b, rfl, rfl, hb, Nat.lt_trans (rem_less ha h0) hb, ?_⟩
  rw [← hc, common_step ha hb h0]
theorem common_less {a b : Nat} {u : Int} (hu : u = 1 ∨ u = -1) (ha : a < 128) (h : ((u * (b : Int) == 0) == false) = true) : (((partTo a b 7).1 : Nat) : Int).toNat < (b : Int).toNat := by
  exact (rem_less ha (eof_no hu h) : (partTo a b 7).1 < b)
theorem common_end {one other a b : Nat} {u : Int} (hu : u = 1 ∨ u = -1) (hc : common a b = common one other) (h : ((u * (b : Int) == 0) == false) = false) : (a : Int) = ((common one other : Nat) : Int) := by
  have h0 := eof_yes hu h
  subst h0
  rw [← hc, common_zero]
theorem common_stop {b : Nat} {u : Int} (hu : u = 1 ∨ u = -1) (h : ((u * (b : Int) == 0) == false) = false) (h' : (((b : Int) == 0) == true) = false) : False := by
  have h0 := eof_yes hu h
  subst h0
  cases h'


theorem common_spec (w : World) (one other : Nat) (t1 t2 : Tok) (h1 : one < 128) (h2 : other < 128) :
    Spec 8 w 124 [.int one t1, .int other t2] (fun _ => True) [] (fun r nx => nx = [] ∧ ∃ t, r = .int (common one other : Nat) t) := by
  unfold Spec SpecK
  k_fill
  intro p loose mean mg mb dp un gd cn cs a ccd cl outer A₀ base h₀ L m s Q E B F X N _ T hk hdp hun hret
  w_on
  k_with_none
  k_with "exec While Compare cons nil" => (k_dflt (k_while (fun _ x y u => (u = 1 ∨ u = -1) ∧ ∃ a b : Nat, x = (a : Int) ∧ y = (b : Int) ∧ a < 128 ∧ b < 128 ∧ common a b = common one other) (fun _ x y u => y.toNat) "one" "other" "turn"); (rename Exists _ => hex); (obtain ⟨a, b, rfl, rfl, ha, hb, hc⟩ := hex))
  k_with "state" => first | exact common_turn (by assumption) (by assumption) (by assumption) (by assumption) (by assumption) | exact common_start (by assumption) (by assumption)
  k_with "measure" => exact common_less (by assumption) (by assumption) (by assumption)
  k_with "mine args" => (((case B => k_asm); (case F => k_asm); (case X => k_asm); (case N => k_asm); (case T => k_asm); (case hk => first | exact rfl | assumption); (case hd => walk_at "mine units"); (case hu => walk_at "mine units"); k_whole))
  k_with "mine enter" => (k_dflt (refine' enterM (args := ⟨_, _⟩) ?zq1B ?zq1F ?zq1X ?zq1N ?zq1T ?zq1kA ?zq1kF ?zq1kK ?zq1k6 ?zq1k7 ?zq1k8 ?zq1k9 ?zq1kB ?_ ?zq1c2 ?zq1c3 ?zq1c4 ?zq1c5; (case zq1kA => exact rfl); (case zq1kF => exact rfl); (case zq1kK => assumption); (case zq1B => k_asm); (case zq1F => k_asm); (case zq1X => k_asm); (case zq1N => k_asm); (case zq1T => k_asm); (case zq1k6 => k_is); (case zq1k7 => k_is); (case zq1k8 => walk_at "mine units"); (case zq1k9 => first | exact BindsTo.of_eq rfl | exact binds_K (by k_in) rfl (by k_is) rfl rfl rfl); (case zq1c5 => decide); (case zq1kB => exact locs rfl); (case zq1c2 => exact rfl); (case zq1c3 => exact rfl); (case zq1c4 => exact rfl); k_whole; intro g' L' h' hg' F' N' B' X' T'; (try dsimp only); (try k_fold)))
  k_with "LeaveM" => ((k_dflt (refine' leaveM_ ?zq3k1 ?zq3k2 ?_; (case zq3k1 => k_asm); (case zq3k2 => k_asm); k_whole); intro kF kN kK kO))
  k_with "execs cons" => (k_fold)
  k_with "storeName" => (dsimp only)
  k_with "newList" => (dsimp only)
  k_with "newTuple" => (dsimp only)
  k_with "truthy bool" => (dsimp only)
  k_with "spliced" => (dsimp only)
  k_with "callWith ref" => (dsimp only)
  k_with "compareOp" => (dsimp only)
  k_with "call ref" => (dsimp only)
  k_with "mine units" => (k_dflt (first | exact unit0 (by assumption) | exact unit1 (by assumption) (by exact rfl) | exact unit2 (by assumption) (by exact rfl) | exact unit3 (by assumption) (by exact rfl) | decide))
  k_with "mine and" => ((first | with_reducible assumption | (apply And.right; first | with_reducible assumption | (apply And.right; first | with_reducible assumption | (apply And.right; first | with_reducible assumption | (apply And.right; first | with_reducible assumption | (apply And.right; first | with_reducible assumption | (apply And.right; first | with_reducible assumption | (apply And.right; first | with_reducible assumption | (apply And.right; with_reducible assumption))))))))))
  k_with "mine in" => (first | (apply And.left; walk_at "mine and") | walk_at "mine and")
  k_with "mine ne" => ((try dsimp only); first | (apply Nat.ne_of_lt; walk_at "mine in") | (apply Nat.ne_of_gt; walk_at "mine in") | walk_at "mine in" | (apply Ne.symm; walk_at "mine in"))
  k_with "call ref" => ((k_here; k_dflt (refine' spec_t (parted_spec _ _ _ _ _ ?zq19q2) ?B ?F ?X ?N ?T ?hk ?hd ?hu trivial ?_; (case zq19q2 => omega); walk_at "mine args"); (intro a9 t9 u9 h9 tk9 F9 N9 O9); clear O9))
  walk_at "mine enter"
  k_steps
  · exact spec_ret hret (by assumption) (by assumption) (by assumption) (by assumption) (by assumption) ⟨rfl, _, int_eq (common_end (by assumption) (by assumption) (by assumption))⟩
  · exact absurd (by assumption) (fun h => common_stop (by assumption) (by assumption) h)
end
section
noncomputable def scan : List Nat → List Nat
  | [] => []
  | c :: r => if c = 34 then (match r with
      | [] => []
      | d :: r' => if d = 34 then 34 :: scan r' else []) else c :: scan r
noncomputable def ofL (l : List Nat) : Str := ⟨l.toArray⟩
theorem ofL_len (l : List Nat) : (ofL l).length = l.length := by simp [ofL, Str.length]
theorem slice_three (a b c : Nat) (r : List Nat) : Txt.slice (ofL (a :: b :: c :: r)) none (some 3) = ofL [a, b, c] := by
  show StrLaws.sliceText _ _ _ = _
  rw [StrLaws.sliceText_to ⟨by decide, by simp [ofL]; omega⟩]
  simp [ofL]
theorem slice_35 (a b c d e : Nat) (r : List Nat) : Txt.slice (ofL (a :: b :: c :: d :: e :: r)) (some 3) (some 5) = ofL [d, e] := by
  show StrLaws.sliceText _ _ _ = _
  rw [StrLaws.sliceText_plain ⟨by decide, by decide, by simp [ofL]; omega⟩]
  simp [ofL]
theorem item_ofL {l : List Nat} {i : Int} {j : Nat} (hi : i = (j : Int)) (hj : j < l.length) : Txt.item (ofL l) i = ofL [l[j]] := by
  have h : 0 ≤ i ∧ i < ((ofL l).length : Int) := by rw [ofL_len]; omega
  rw [item_meets h]
  have e : i.toNat = j := by omega
  rw [e]
  simp [ofL, Array.getD, hj]
theorem app_ofL (a b : List Nat) : ofL a ++ ofL b = ofL (a ++ b) := Str.ext' (by rw [Str.cps_append]; simp [ofL])
theorem ofL_inj {a b : List Nat} : ofL a = ofL b ↔ a = b := by
  constructor
  · intro h
    have := congrArg (fun x => x.cps.toList) h
    simpa [ofL] using this
  · intro h; rw [h]
theorem lit_257 : Str.ofString "257" = ofL [50, 53, 55] := by decide
theorem lit_bq : Str.ofString " \"" = ofL [32, 34] := by decide
theorem lit_q : Str.ofString "\"" = ofL [34] := by decide
theorem lit_nil : Str.ofString "" = ofL [] := by decide
theorem size_ofL {l : List Nat} (h : l.length ≤ 16777216) : (ofL l).length ≤ sizeLine := by rw [ofL_len, sizeLine_eq]; exact h

theorem scan_q1 {b : List Nat} {j : Nat} (hj : j < b.length) (h : b[j] = 34) (h2 : b.length ≤ j + 1) : scan (b.drop j) = [] := by
  rw [List.drop_eq_getElem_cons hj, h, List.drop_of_length_le h2]
  simp [scan]
theorem scan_q2 {b : List Nat} {j : Nat} (hj : j + 1 < b.length) (h : b[j] = 34) (h2 : b[j + 1] ≠ 34) : scan (b.drop j) = [] := by
  rw [List.drop_eq_getElem_cons (by omega), h, List.drop_eq_getElem_cons hj]
  simp [scan, h2]
theorem scan_q3 {b : List Nat} {j : Nat} (hj : j + 1 < b.length) (h : b[j] = 34) (h2 : b[j + 1] = 34) : scan (b.drop j) = 34 :: scan (b.drop (j + 2)) := by
  rw [List.drop_eq_getElem_cons (by omega), h, List.drop_eq_getElem_cons hj, h2]
  simp [scan]
theorem scan_q4 {b : List Nat} {j : Nat} (hj : j < b.length) (h : b[j] ≠ 34) : scan (b.drop j) = b[j] :: scan (b.drop (j + 1)) := by
  rw [List.drop_eq_getElem_cons hj]
  conv => lhs; unfold scan
  rw [if_neg h]
theorem is_q {c : Nat} (h : (ofL [c] == Str.ofString "\"") = true) : c = 34 := by
  rw [lit_q, beq_iff_eq, ofL_inj] at h
  injection h
theorem not_q {c : Nat} (h : (ofL [c] == Str.ofString "\"") = false) : c ≠ 34 := by
  intro e
  rw [e, lit_q, beq_self_eq_true] at h
  cases h
theorem is_q' {c : Nat} (h : (ofL [c] != Str.ofString "\"") = false) : c = 34 := is_q (by simpa [bne] using h)
theorem not_q' {c : Nat} (h : (ofL [c] != Str.ofString "\"") = true) : c ≠ 34 := not_q (by simpa [bne] using h)
section
variable {b d : List Nat} {j : Nat}
theorem str_eq {x y : Str} {t : Tok} (h : x = y) : Value.str x t = Value.str y t := by rw [h]
theorem parse_e1 (hd : d ++ scan (b.drop j) = scan b) {hj : j < b.length} (h : (ofL [b[j]] == Str.ofString "\"") = true) (h2 : ((b.length + 1 + 1 + 1 + 1 + 1 : Nat) : Int) ≤ 5 + (j : Int) + 1) : ofL d = ofL (scan b) := by
  rw [← hd, scan_q1 hj (is_q h) (by omega), List.append_nil]
theorem parse_e2 (hd : d ++ scan (b.drop j) = scan b) {hj : j < b.length} {hj' : j + 1 < b.length} (h : (ofL [b[j]] == Str.ofString "\"") = true) (h2 : (ofL [b[j + 1]] != Str.ofString "\"") = true) : ofL d = ofL (scan b) := by
  rw [← hd, scan_q2 hj' (is_q h) (not_q' h2), List.append_nil]
theorem parse_e3 (hd : d ++ scan (b.drop j) = scan b) (h2 : ¬ 5 + (j : Int) < ((b.length + 1 + 1 + 1 + 1 + 1 : Nat) : Int)) : ofL d = ofL (scan b) := by
  rw [← hd, List.drop_of_length_le (by omega), scan, List.append_nil]
theorem parse_t1 (hd : d ++ scan (b.drop j) = scan b) (hl : d.length ≤ j) {hj : j < b.length} {hj' : j + 1 < b.length} (h : (ofL [b[j]] == Str.ofString "\"") = true) (h2 : (ofL [b[j + 1]] != Str.ofString "\"") = false) :
    ∃ (j' : Nat) (d' : List Nat), 5 + (j : Int) + 1 + 1 = 5 + (j' : Int) ∧ ofL d ++ ofL [b[j]] = ofL d' ∧ j' ≤ b.length ∧ d'.length ≤ j' ∧ d' ++ scan (b.drop j') = scan b := by
  refine ⟨j + 2, d ++ [34], by omega, by rw [is_q h, app_ofL], by omega, by simp; omega, ?_⟩
  rw [← hd, scan_q3 hj' (is_q h) (is_q' h2)]
  simp
theorem parse_t2 (hd : d ++ scan (b.drop j) = scan b) (hl : d.length ≤ j) {hj : j < b.length} (h : (ofL [b[j]] == Str.ofString "\"") = false) :
    ∃ (j' : Nat) (d' : List Nat), 5 + (j : Int) + 1 = 5 + (j' : Int) ∧ ofL d ++ ofL [b[j]] = ofL d' ∧ j' ≤ b.length ∧ d'.length ≤ j' ∧ d' ++ scan (b.drop j') = scan b := by
  refine ⟨j + 1, d ++ [b[j]], by omega, by rw [app_ofL], by omega, by simp; omega, ?_⟩
  rw [← hd, scan_q4 hj (not_q h)]
  simp
theorem parse_start (b : List Nat) : ∃ (j : Nat) (d : List Nat), (5 : Int) = 5 + (j : Int) ∧ Str.ofString "" = ofL d ∧ j ≤ b.length ∧ d.length ≤ j ∧ d ++ scan (b.drop j) = scan b := ⟨0, [], rfl, lit_nil, Nat.zero_le _, Nat.zero_le _, rfl⟩
end

theorem item5 {b : List Nat} {j : Nat} (hj : j < b.length) : Txt.item (ofL (50 :: 53 :: 55 :: 32 :: 34 :: b)) (5 + (j : Int)) = ofL [b[j]] := by
  rw [item_ofL (j := j + 5) (by omega) (by simp only [List.length_cons]; omega)]
  simp
theorem item6 {b : List Nat} {j : Nat} (hj : j + 1 < b.length) : Txt.item (ofL (50 :: 53 :: 55 :: 32 :: 34 :: b)) (5 + (j : Int) + 1) = ofL [b[j + 1]] := by
  rw [item_ofL (j := j + 6) (by omega) (by simp only [List.length_cons]; omega)]
  simp
theorem parse_spec (w : World) (b : List Nat) (t1 : Tok) (h1 : b.length < 2^20) :
    Spec 4 w 46 [.str (ofL (50 :: 53 :: 55 :: 32 :: 34 :: b)) t1] (fun _ => True) [] (fun r nx => nx = [] ∧ ∃ t, r = .str (ofL (scan b)) t) := by
  unfold Spec SpecK
  k_fill
  intro p loose mean mg mb dp un gd cn cs a ccd cl outer A₀ base h₀ L m s Q E B F X N _ T hk hdp hun hret
  w_on
  k_with_none
  k_with "exec While Compare cons nil" => (k_dflt (k_while (fun _ i dn => ∃ (j : Nat) (d : List Nat), i = 5 + (j : Int) ∧ dn = ofL d ∧ j ≤ b.length ∧ d.length ≤ j ∧ d ++ scan (b.drop j) = scan b) (fun _ i _ => b.length + 5 - i.toNat) "i" "dirname"); (rename Exists _ => hex); (obtain ⟨j, d, rfl, rfl, hj, hl, hd⟩ := hex))
  k_with "state" => first | exact parse_start _ | exact parse_t1 (by assumption) (by assumption) (by assumption) (by assumption) | exact parse_t2 (by assumption) (by assumption) (by assumption)
  k_with "measure" => first | exact meas1 (by assumption) | exact meas2 (by assumption)
  k_with "mine enter" => (k_dflt (refine' enterM (args := ⟨_, _⟩) ?zq1B ?zq1F ?zq1X ?zq1N ?zq1T ?zq1kA ?zq1kF ?zq1kK ?zq1k6 ?zq1k7 ?zq1k8 ?zq1k9 ?zq1kB ?_ ?zq1c2 ?zq1c3 ?zq1c4 ?zq1c5; (case zq1kA => exact rfl); (case zq1kF => exact rfl); (case zq1kK => assumption); (case zq1B => k_asm); (case zq1F => k_asm); (case zq1X => k_asm); (case zq1N => k_asm); (case zq1T => k_asm); (case zq1k6 => k_is); (case zq1k7 => k_is); (case zq1k8 => walk_at "mine units"); (case zq1k9 => first | exact BindsTo.of_eq rfl | exact binds_K (by k_in) rfl (by k_is) rfl rfl rfl); (case zq1c5 => decide); (case zq1kB => exact locs rfl); (case zq1c2 => exact rfl); (case zq1c3 => exact rfl); (case zq1c4 => exact rfl); k_whole; intro g' L' h' hg' F' N' B' X' T'; (try dsimp only); (try k_fold)))
  k_with "LeaveM" => ((k_dflt (refine' leaveM_ ?zq3k1 ?zq3k2 ?_; (case zq3k1 => k_asm); (case zq3k2 => k_asm); k_whole); intro kF kN kK kO))
  k_with "execs cons" => (k_fold)
  k_with "storeName" => (dsimp only)
  k_with "newList" => (dsimp only)
  k_with "newTuple" => (dsimp only)
  k_with "truthy bool" => (dsimp only)
  k_with "spliced" => (dsimp only)
  k_with "callWith ref" => (dsimp only)
  k_with "compareOp" => (dsimp only)
  k_with "call ref" => (dsimp only)
  k_with "mine units" => (k_dflt (first | exact unit0 (by assumption) | exact unit1 (by assumption) (by exact rfl) | exact unit2 (by assumption) (by exact rfl) | exact unit3 (by assumption) (by exact rfl) | decide))
  k_with "mine and" => ((first | with_reducible assumption | (apply And.right; first | with_reducible assumption | (apply And.right; first | with_reducible assumption | (apply And.right; first | with_reducible assumption | (apply And.right; first | with_reducible assumption | (apply And.right; first | with_reducible assumption | (apply And.right; first | with_reducible assumption | (apply And.right; first | with_reducible assumption | (apply And.right; with_reducible assumption))))))))))
  k_with "mine in" => (first | (apply And.left; walk_at "mine and") | walk_at "mine and")
  k_with "mine ne" => ((try dsimp only); first | (apply Nat.ne_of_lt; walk_at "mine in") | (apply Nat.ne_of_gt; walk_at "mine in") | walk_at "mine in" | (apply Ne.symm; walk_at "mine in"))
  k_with "subscriptTail Name Slice str ref" => ((k_here; (with_reducible rename Fr _ _ _ _ => F'); (with_reducible rename News _ _ _ _ => N'); first
    | ((with_reducible show wpAny _ _ (subscriptTail _ (Expr.Slice none (some _) none _) _ _) _ _ _); k_dflt (refine slice_strN_ns (hsz := ?zq20hsz) (s := ⟨_, _, _, _, _⟩) F' N' ?_); (case zq20hsz => exact size_ofL (by simp only [List.length_cons]; omega)); intro _ _ _ _ _; rw [slice_three])
    | ((with_reducible show wpAny _ _ (subscriptTail _ (Expr.Slice (some _) (some _) none _) _ _) _ _ _); k_dflt (refine slice_strN_ss (hsz := ?zq20hsz) (s := ⟨_, _, _, _, _⟩) F' N' ?_); (case zq20hsz => exact size_ofL (by simp only [List.length_cons]; omega)); intro _ _ _ _ _; rw [slice_35])))
  k_with "call builtin:len cons nil" => ((k_here; k_dflt (refine P.len_str ?zq21z ?_; (case zq21z => (rw [ofL_len]; simp only [List.length_cons]; omega)); rw [ofL_len]; simp only [List.length_cons])))
  k_with "subscriptTail Name Name str int" => ((k_here; k_dflt (refine KXi.item (ofL_len _) ?zq22a ?zq22b ?zq22c ?_; (case zq22a => (simp only [List.length_cons]; omega)); (case zq22b => (simp only [List.length_cons]; omega)); (case zq22c => (simp only [List.length_cons]; omega)); intro _; first | rw [item5 (by omega)] | rw [item6 (by omega)])))
  k_with "binaryOp Add str str" => ((k_here; k_dflt (refine KLn.add_n (m := 8388608) (k := 8388608) ?zq23a ?zq23b (by decide) ?_; (case zq23a => (rw [ofL_len]; (try simp only [List.length_cons, List.length_nil]); omega)); (case zq23b => (rw [ofL_len]; (try simp only [List.length_cons, List.length_nil]); omega)); intro _ _ _ _ _ _)))
  walk_at "mine enter"
  k_steps
  · exact spec_ret hret (by assumption) (by assumption) (by assumption) (by assumption) (by assumption) ⟨rfl, _, str_eq (parse_e1 (by assumption) (by assumption) (by assumption))⟩
  · exact spec_ret hret (by assumption) (by assumption) (by assumption) (by assumption) (by assumption) ⟨rfl, _, str_eq (parse_e2 (by assumption) (by assumption) (by assumption))⟩
  · exact spec_ret hret (by assumption) (by assumption) (by assumption) (by assumption) (by assumption) ⟨rfl, _, str_eq (parse_e3 (by assumption) (by assumption))⟩

theorem parse_none1 (w : World) (b : List Nat) (t1 : Tok) (h1 : b.length < 2^20) :
    Spec 4 w 46 [.str (ofL (50 :: 53 :: 55 :: 45 :: 34 :: b)) t1] (fun _ => True) [] (fun r nx => nx = [] ∧ ∃ t, r = .str (ofL []) t) := by
  unfold Spec SpecK
  k_fill
  intro p loose mean mg mb dp un gd cn cs a ccd cl outer A₀ base h₀ L m s Q E B F X N _ T hk hdp hun hret
  w_on
  k_with_none
  k_with "mine enter" => (k_dflt (refine' enterM (args := ⟨_, _⟩) ?zq1B ?zq1F ?zq1X ?zq1N ?zq1T ?zq1kA ?zq1kF ?zq1kK ?zq1k6 ?zq1k7 ?zq1k8 ?zq1k9 ?zq1kB ?_ ?zq1c2 ?zq1c3 ?zq1c4 ?zq1c5; (case zq1kA => exact rfl); (case zq1kF => exact rfl); (case zq1kK => assumption); (case zq1B => k_asm); (case zq1F => k_asm); (case zq1X => k_asm); (case zq1N => k_asm); (case zq1T => k_asm); (case zq1k6 => k_is); (case zq1k7 => k_is); (case zq1k8 => walk_at "mine units"); (case zq1k9 => first | exact BindsTo.of_eq rfl | exact binds_K (by k_in) rfl (by k_is) rfl rfl rfl); (case zq1c5 => decide); (case zq1kB => exact locs rfl); (case zq1c2 => exact rfl); (case zq1c3 => exact rfl); (case zq1c4 => exact rfl); k_whole; intro g' L' h' hg' F' N' B' X' T'; (try dsimp only); (try k_fold)))
  k_with "LeaveM" => ((k_dflt (refine' leaveM_ ?zq3k1 ?zq3k2 ?_; (case zq3k1 => k_asm); (case zq3k2 => k_asm); k_whole); intro kF kN kK kO))
  k_with "execs cons" => (k_fold)
  k_with "storeName" => (dsimp only)
  k_with "newList" => (dsimp only)
  k_with "newTuple" => (dsimp only)
  k_with "truthy bool" => (dsimp only)
  k_with "spliced" => (dsimp only)
  k_with "callWith ref" => (dsimp only)
  k_with "compareOp" => (dsimp only)
  k_with "call ref" => (dsimp only)
  k_with "mine units" => (k_dflt (first | exact unit0 (by assumption) | exact unit1 (by assumption) (by exact rfl) | exact unit2 (by assumption) (by exact rfl) | exact unit3 (by assumption) (by exact rfl) | decide))
  k_with "mine and" => ((first | with_reducible assumption | (apply And.right; first | with_reducible assumption | (apply And.right; first | with_reducible assumption | (apply And.right; first | with_reducible assumption | (apply And.right; first | with_reducible assumption | (apply And.right; first | with_reducible assumption | (apply And.right; first | with_reducible assumption | (apply And.right; first | with_reducible assumption | (apply And.right; with_reducible assumption))))))))))
  k_with "mine in" => (first | (apply And.left; walk_at "mine and") | walk_at "mine and")
  k_with "mine ne" => ((try dsimp only); first | (apply Nat.ne_of_lt; walk_at "mine in") | (apply Nat.ne_of_gt; walk_at "mine in") | walk_at "mine in" | (apply Ne.symm; walk_at "mine in"))
  k_with "subscriptTail Name Slice str ref" => ((k_here; (with_reducible rename Fr _ _ _ _ => F'); (with_reducible rename News _ _ _ _ => N'); first
    | ((with_reducible show wpAny _ _ (subscriptTail _ (Expr.Slice none (some _) none _) _ _) _ _ _); k_dflt (refine slice_strN_ns (hsz := ?zq20hsz) (s := ⟨_, _, _, _, _⟩) F' N' ?_); (case zq20hsz => exact size_ofL (by simp only [List.length_cons]; omega)); intro _ _ _ _ _; rw [slice_three])
    | ((with_reducible show wpAny _ _ (subscriptTail _ (Expr.Slice (some _) (some _) none _) _ _) _ _ _); k_dflt (refine slice_strN_ss (hsz := ?zq20hsz) (s := ⟨_, _, _, _, _⟩) F' N' ?_); (case zq20hsz => exact size_ofL (by simp only [List.length_cons]; omega)); intro _ _ _ _ _; rw [slice_35])))
  k_with "call builtin:len cons nil" => ((k_here; k_dflt (refine P.len_str ?zq21z ?_; (case zq21z => (rw [ofL_len]; simp only [List.length_cons]; omega)); rw [ofL_len]; simp only [List.length_cons])))
  k_with "subscriptTail Name Name str int" => ((k_here; k_dflt (refine KXi.item (ofL_len _) ?zq22a ?zq22b ?zq22c ?_; (case zq22a => (simp only [List.length_cons]; omega)); (case zq22b => (simp only [List.length_cons]; omega)); (case zq22c => (simp only [List.length_cons]; omega)); intro _; first | rw [item5 (by omega)] | rw [item6 (by omega)])))
  k_with "binaryOp Add str str" => ((k_here; k_dflt (refine KLn.add_n (m := 8388608) (k := 8388608) ?zq23a ?zq23b (by decide) ?_; (case zq23a => (rw [ofL_len]; (try simp only [List.length_cons, List.length_nil]); omega)); (case zq23b => (rw [ofL_len]; (try simp only [List.length_cons, List.length_nil]); omega)); intro _ _ _ _ _ _)))
  walk_at "mine enter"
  k_steps
  exact spec_ret hret (by assumption) (by assumption) (by assumption) (by assumption) (by assumption) ⟨rfl, _, str_eq lit_nil⟩
theorem parse_none2 (w : World) (b : List Nat) (t1 : Tok) (h1 : b.length < 2^20) :
    Spec 4 w 46 [.str (ofL (50 :: 53 :: 55 :: 32 :: 45 :: b)) t1] (fun _ => True) [] (fun r nx => nx = [] ∧ ∃ t, r = .str (ofL []) t) := by
  unfold Spec SpecK
  k_fill
  intro p loose mean mg mb dp un gd cn cs a ccd cl outer A₀ base h₀ L m s Q E B F X N _ T hk hdp hun hret
  w_on
  k_with_none
  k_with "mine enter" => (k_dflt (refine' enterM (args := ⟨_, _⟩) ?zq1B ?zq1F ?zq1X ?zq1N ?zq1T ?zq1kA ?zq1kF ?zq1kK ?zq1k6 ?zq1k7 ?zq1k8 ?zq1k9 ?zq1kB ?_ ?zq1c2 ?zq1c3 ?zq1c4 ?zq1c5; (case zq1kA => exact rfl); (case zq1kF => exact rfl); (case zq1kK => assumption); (case zq1B => k_asm); (case zq1F => k_asm); (case zq1X => k_asm); (case zq1N => k_asm); (case zq1T => k_asm); (case zq1k6 => k_is); (case zq1k7 => k_is); (case zq1k8 => walk_at "mine units"); (case zq1k9 => first | exact BindsTo.of_eq rfl | exact binds_K (by k_in) rfl (by k_is) rfl rfl rfl); (case zq1c5 => decide); (case zq1kB => exact locs rfl); (case zq1c2 => exact rfl); (case zq1c3 => exact rfl); (case zq1c4 => exact rfl); k_whole; intro g' L' h' hg' F' N' B' X' T'; (try dsimp only); (try k_fold)))
  k_with "LeaveM" => ((k_dflt (refine' leaveM_ ?zq3k1 ?zq3k2 ?_; (case zq3k1 => k_asm); (case zq3k2 => k_asm); k_whole); intro kF kN kK kO))
  k_with "execs cons" => (k_fold)
  k_with "storeName" => (dsimp only)
  k_with "newList" => (dsimp only)
  k_with "newTuple" => (dsimp only)
  k_with "truthy bool" => (dsimp only)
  k_with "spliced" => (dsimp only)
  k_with "callWith ref" => (dsimp only)
  k_with "compareOp" => (dsimp only)
  k_with "call ref" => (dsimp only)
  k_with "mine units" => (k_dflt (first | exact unit0 (by assumption) | exact unit1 (by assumption) (by exact rfl) | exact unit2 (by assumption) (by exact rfl) | exact unit3 (by assumption) (by exact rfl) | decide))
  k_with "mine and" => ((first | with_reducible assumption | (apply And.right; first | with_reducible assumption | (apply And.right; first | with_reducible assumption | (apply And.right; first | with_reducible assumption | (apply And.right; first | with_reducible assumption | (apply And.right; first | with_reducible assumption | (apply And.right; first | with_reducible assumption | (apply And.right; first | with_reducible assumption | (apply And.right; with_reducible assumption))))))))))
  k_with "mine in" => (first | (apply And.left; walk_at "mine and") | walk_at "mine and")
  k_with "mine ne" => ((try dsimp only); first | (apply Nat.ne_of_lt; walk_at "mine in") | (apply Nat.ne_of_gt; walk_at "mine in") | walk_at "mine in" | (apply Ne.symm; walk_at "mine in"))
  k_with "subscriptTail Name Slice str ref" => ((k_here; (with_reducible rename Fr _ _ _ _ => F'); (with_reducible rename News _ _ _ _ => N'); first
    | ((with_reducible show wpAny _ _ (subscriptTail _ (Expr.Slice none (some _) none _) _ _) _ _ _); k_dflt (refine slice_strN_ns (hsz := ?zq20hsz) (s := ⟨_, _, _, _, _⟩) F' N' ?_); (case zq20hsz => exact size_ofL (by simp only [List.length_cons]; omega)); intro _ _ _ _ _; rw [slice_three])
    | ((with_reducible show wpAny _ _ (subscriptTail _ (Expr.Slice (some _) (some _) none _) _ _) _ _ _); k_dflt (refine slice_strN_ss (hsz := ?zq20hsz) (s := ⟨_, _, _, _, _⟩) F' N' ?_); (case zq20hsz => exact size_ofL (by simp only [List.length_cons]; omega)); intro _ _ _ _ _; rw [slice_35])))
  k_with "call builtin:len cons nil" => ((k_here; k_dflt (refine P.len_str ?zq21z ?_; (case zq21z => (rw [ofL_len]; simp only [List.length_cons]; omega)); rw [ofL_len]; simp only [List.length_cons])))
  k_with "subscriptTail Name Name str int" => ((k_here; k_dflt (refine KXi.item (ofL_len _) ?zq22a ?zq22b ?zq22c ?_; (case zq22a => (simp only [List.length_cons]; omega)); (case zq22b => (simp only [List.length_cons]; omega)); (case zq22c => (simp only [List.length_cons]; omega)); intro _; first | rw [item5 (by omega)] | rw [item6 (by omega)])))
  k_with "binaryOp Add str str" => ((k_here; k_dflt (refine KLn.add_n (m := 8388608) (k := 8388608) ?zq23a ?zq23b (by decide) ?_; (case zq23a => (rw [ofL_len]; (try simp only [List.length_cons, List.length_nil]); omega)); (case zq23b => (rw [ofL_len]; (try simp only [List.length_cons, List.length_nil]); omega)); intro _ _ _ _ _ _)))
  walk_at "mine enter"
  k_steps
  exact spec_ret hret (by assumption) (by assumption) (by assumption) (by assumption) (by assumption) ⟨rfl, _, str_eq lit_nil⟩
end
section
section
variable {prog : Program} {w : World} {A : Around} {h₀ : Heap} {L : Addr} {m : Str → Option Value} {env : Env} {elt : Expr} {x : Str} {scope : Scope} {cl : List (Str × Addr)} {s : Shared} {S : List (Addr × Obj) → Prop} {P : Nat → Value → Prop} {Fin : List Value → List (Addr × Obj) → Prop} {news : List (Addr × Obj)}
theorem comp_turns {n : Nat} (El : Nat → Value → Prop)
    (turn : ∀ i v I oI C oC D m₂ ys h tk (E' : Value → Shared → Prop), i < n → P i v → LCg.NsObj oC m₂ → m₂ x = some v → Fr h₀ L h m → News h₀ L h ((I, oI) :: (C, oC) :: (D, LCg.lst ys) :: news) → LCg.Off3 I C D news → ((@Ne Nat I C) ∧ (@Ne Nat I D) ∧ (@Ne Nat C D)) → S news →
      wpAny (model prog w) A (eval elt (compEnvC scope cl C env)) (LCg.CompEnd h₀ L m { s with heap := h, toks := tk } I oI C oC D (LCg.lst ys) S (fun y news' => news' = news ∧ El i y)) E' { s with heap := h, toks := tk })
    (hS : S news) (fin : ∀ ys, ys.length = n → (∀ i y, ys[i]? = some y → El i y) → Fin ys news) : LCg.CompRest prog w A h₀ L m env elt x scope cl s S P Fin n 0 [] news := by
  have key : ∀ (j i : Nat) (ys : List Value), i + j = n → ys.length = i → (∀ k y, ys[k]? = some y → El k y) → LCg.CompRest prog w A h₀ L m env elt x scope cl s S P Fin j i ys news := by
    intro j
    induction j with
    | zero => intro i ys hi hl hy; exact LCg.CompRest.zero (fin ys (hl.trans hi) hy)
    | succ j ih =>
      intro i ys hi hl hy
      refine LCg.CompRest.succ ?_
      intro v I oI C oC D m₂ h tk E' hv hC hx F N off ne
      refine wpAny_mono (turn i v I oI C oC D m₂ ys h tk E' (hi ▸ Nat.lt_add_of_pos_right (Nat.succ_pos j)) hv hC hx F N off ne hS) (fun y s₂ hq => ?_) fun _ _ e => e
      obtain ⟨h', tk', nw, e, F', N', off', hS', hn, hE⟩ := hq
      rw [hn] at N' off' hS'
      refine ⟨h', tk', news, e, F', N', off', hS', ih (i + 1) _ ((Nat.succ_add_eq_add_succ i j).trans hi) (by simp [hl]) fun k z hk => ?_⟩
      by_cases hlt : k < ys.length
      · rw [List.getElem?_append_left hlt] at hk; exact hy k z hk
      · rw [List.getElem?_append_right (Nat.le_of_not_lt hlt)] at hk
        have hk0 : k - ys.length = 0 := by
          cases hq : k - ys.length with
          | zero => rfl
          | succ q => rw [hq] at hk; cases hk
        rw [hk0] at hk
        have : k = i := hl ▸ Nat.le_antisymm (Nat.le_of_sub_eq_zero hk0) (Nat.le_of_not_lt hlt)
        rw [this]
        cases hk
        exact hE
  exact key n 0 [] (by omega) rfl fun k y hk => by cases hk
theorem comp_end {I C D : Addr} {oI oC oD : Obj} {El : Value → Prop} {y : Value} {h' : Heap} {tk : Nat} {s₁ : Shared} (F : Fr h₀ L h' m) {own : List (Addr × Obj)} (N : News h₀ L h' (own ++ ((I, oI) :: (C, oC) :: (D, oD) :: news))) (off : LCg.Off3 I C D news) (hS : S news) (r : El y) :
    LCg.CompEnd h₀ L m s₁ I oI C oC D oD S (fun y news' => news' = news ∧ El y) y { s₁ with heap := h', toks := tk } :=
  ⟨h', tk, news, rfl, F, fun p hp => N p (List.mem_append_right _ hp), off, hS, rfl, r⟩
end
end
section
noncomputable def pc (n c i : Nat) : List Nat := if n / 2 ^ i % 2 = 1 then [c] else []
noncomputable def txtFrom (n c : Nat) : Nat → Nat → List Nat
  | 0, i => pc n c i
  | k + 1, i => pc n c i ++ 34 :: txtFrom n c k (i + 1)
noncomputable def txt (n size c : Nat) : List Nat := txtFrom n c size 0
theorem strs_of : ∀ (ys : List Value) (f : Nat → Str), (∀ i y, ys[i]? = some y → ∃ t, y = Value.str (f i) t) → StrsAre ys ((List.range ys.length).map f)
  | [], _, _ => by simpa using StrsAre.nil
  | y :: ys, f, h => by
    obtain ⟨t, e⟩ := h 0 y rfl
    have ih := strs_of ys (fun i => f (i + 1)) fun i z hz => h (i + 1) z (by simpa using hz)
    rw [e, List.length_cons, List.range_succ_eq_map, List.map_cons, List.map_map]
    exact StrsAre.cons _ t ih
theorem join_txt (n c : Nat) : ∀ k i, Str.join (ofL [34]) ((List.range' i (k + 1)).map fun j => ofL (pc n c j)) = ofL (txtFrom n c k i)
  | 0, i => rfl
  | k + 1, i => by
    have ih := join_txt n c k (i + 1)
    rw [List.range'_succ, List.map_cons] at ih
    rw [List.range'_succ, List.range'_succ, List.map_cons, List.map_cons]
    show ofL (pc n c i) ++ ofL [34] ++ Str.join (ofL [34]) _ = _
    rw [ih, txtFrom, app_ofL, app_ofL]
    simp
theorem join_text (n c k : Nat) : Txt.join (Str.ofString "\"") ((List.range (k + 1)).map fun j => ofL (pc n c j)) = ofL (txt n k c) := by
  show Builtin.Str.glued _ _ = _
  rw [StrLaws.glued_eq_join, lit_q, List.range_eq_range', join_txt]
  rfl
theorem pc_len (n c i : Nat) : (pc n c i).length ≤ 1 := by unfold pc; split <;> simp
theorem sum_le {α : Type} (f : α → Nat) : ∀ l : List α, (∀ a ∈ l, f a ≤ 1) → (l.map f).sum ≤ l.length
  | [], _ => by simp
  | a :: l, h => by
    have := sum_le f l fun b hb => h b (.tail _ hb)
    have := h a (.head _)
    simp only [List.map_cons, List.sum_cons, List.length_cons]
    omega
theorem text_yes {n i c : Nat} {t : Tok} (h : Int.fmod (Int.fdiv (n : Int) (2 ^ (0 + (i : Int)).toNat)) 2 = 1) : ∃ t', Value.str (ofL [c]) t = .str (ofL (pc n c i)) t' := by
  rw [lo_nat i, bit_cast] at h
  exact ⟨t, by rw [pc, if_pos (by omega)]⟩
theorem text_no {n i c : Nat} {t : Tok} (h : ¬ Int.fmod (Int.fdiv (n : Int) (2 ^ (0 + (i : Int)).toNat)) 2 = 1) : ∃ t', Value.str (Str.ofString "") t = .str (ofL (pc n c i)) t' := by
  rw [lo_nat i, bit_cast] at h
  exact ⟨t, by rw [pc, if_neg (by omega), lit_nil]⟩
theorem text_fit {n c : Nat} {k : Nat} (hk : k < 100) : (((List.range k).map fun j => ofL (pc n c j)).map (·.length)).sum + ((List.range k).map fun j => ofL (pc n c j)).length * (Str.ofString "\"").length ≤ 16777216 := by
  have h1 : (((List.range k).map fun j => ofL (pc n c j)).map (·.length)).sum ≤ k := by
    rw [List.map_map]
    have := sum_le (Str.length ∘ fun j => ofL (pc n c j)) (List.range k) fun j _ => by
      show (ofL (pc n c j)).length ≤ 1
      rw [ofL_len]; exact pc_len n c j
    simpa using this
  rw [lit_q, ofL_len, List.length_map, List.length_range]
  simp only [List.length_cons, List.length_nil]
  omega

theorem text_spec (w : World) (n size c : Nat) (t1 t2 t3 : Tok) (h2 : size < 20) :
    Spec 4 w 141 [.int n t1, .int size t2, .str (ofL [c]) t3] (fun _ => True) [] (fun r _ => ∃ t, r = .str (ofL (txt n size c)) t) := by
  unfold Spec SpecK
  k_fill
  intro p loose mean mg mb dp un gd cn cs a ccd cl outer A₀ base h₀ L m s Q E B F X N _ T hk hdp hun hret
  w_on
  k_with_none
  k_with "mine enterC" => (k_dflt (refine' enterMC (args := ⟨_, _⟩) ?zq2B ?zq2F ?zq2X ?zq2N ?zq2T ?zq2kA ?zq2kF ?zq2kK ?zq2k6 ?zq2k7 ?zq2k8 ?zq2k9 ?zq2kB ?zq2kD ?_ ?zq2c2 ?zq2c3 ?zq2c4; (case zq2kA => exact rfl); (case zq2kF => exact rfl); (case zq2kK => assumption); (case zq2B => k_asm); (case zq2F => k_asm); (case zq2X => k_asm); (case zq2N => k_asm); (case zq2T => k_asm); (case zq2k6 => k_is); (case zq2k7 => k_is); (case zq2k8 => walk_at "mine units"); (case zq2k9 => first | exact BindsTo.of_eq rfl | exact binds_K (by k_in) rfl (by k_is) rfl rfl rfl); (case zq2kB => exact rfl); (case zq2kD => decide +kernel); (case zq2c2 => exact rfl); (case zq2c3 => exact rfl); (case zq2c4 => exact rfl); k_whole; intro g' L' h' tk' cells' hg' F' N' Y' B' X' T' l1; (try k_lt l1); k_cells Y'; (try simp only [List.cons_append, List.nil_append] at N'); (try dsimp only); (try k_fold)))
  k_with "LeaveM" => ((k_dflt (refine' leaveM_ ?zq3k1 ?zq3k2 ?_; (case zq3k1 => k_asm); (case zq3k2 => k_asm); k_whole); intro kF kN kK kO))
  k_with "mine step" => (first | (k_unfold; (try dsimp only)) | walk1 | (dsimp only; walk1))
  k_with "mine to CompSrc" => (repeat' ((fail_if_success (with_reducible show LCg.CompSrc _ _ _ _ _ _ _ _ _ _ _ _ _ _)); walk_at "mine step"))
  k_with "execs cons" => (k_fold)
  k_with "storeName" => (dsimp only)
  k_with "newList" => (dsimp only)
  k_with "newTuple" => (dsimp only)
  k_with "truthy bool" => (dsimp only)
  k_with "spliced" => (dsimp only)
  k_with "callWith ref" => (dsimp only)
  k_with "compareOp" => (dsimp only)
  k_with "call ref" => (dsimp only)
  k_with "mine units" => (k_dflt (first | exact unit0 (by assumption) | exact unit1 (by assumption) (by exact rfl) | exact unit2 (by assumption) (by exact rfl) | exact unit3 (by assumption) (by exact rfl) | decide))
  k_with "mine and" => ((first | with_reducible assumption | (apply And.right; first | with_reducible assumption | (apply And.right; first | with_reducible assumption | (apply And.right; first | with_reducible assumption | (apply And.right; first | with_reducible assumption | (apply And.right; first | with_reducible assumption | (apply And.right; first | with_reducible assumption | (apply And.right; first | with_reducible assumption | (apply And.right; with_reducible assumption))))))))))
  k_with "mine in" => (first | (apply And.left; walk_at "mine and") | walk_at "mine and")
  k_with "mine ne" => ((try dsimp only); first | (apply Nat.ne_of_lt; walk_at "mine in") | (apply Nat.ne_of_gt; walk_at "mine in") | walk_at "mine in" | (apply Ne.symm; walk_at "mine in"))
  k_with "ite" => (first | (refine split_ieq ?_ ?_ <;> intro _) | (refine split_bool ?_ ?_ <;> intro _))
  k_with "CompEnd" => ((refine comp_end (own := []) (by assumption) (by assumption) (by assumption) trivial ?_; first | exact text_yes (by assumption) | exact text_no (by assumption)))
  walk_at "mine enterC"
  walk_at "mine to CompSrc"
  k_dflt (refine' LCg.CompSrc.range (n := (((size : Int) + 1) - 0).toNat) ?hh ?F ?N ?hr ?hsm ?hn ?hsz ?_; (case hh => exact rfl); (case F => k_asm); (case N => k_asm); (case hr => assumption); (case hsm => exact small_one (by omega) (by omega) (by omega) (by omega)); (case hn => exact rangeSize_nat _ _); (case hsz => rw [sizeLine_eq]; omega))
  intro g
  refine comp_turns (fun i v => ∃ t, v = .str (ofL (pc n c i)) t) ?_ trivial ?_
  · intro i v I oI C oC D m₂ ys h tk E' hi hP hC hx F N off ne _
    obtain ⟨t, rfl⟩ := hP
    replace hi : i < size + 1 := hi
    k_steps
  intro ys hl hy
  k_steps
  have hsz : ys.length = size + 1 := hl
  k_dflt (refine join_list (News.isList (by assumption) (.head _)) (by rw [List.toList_toArray]; exact strs_of ys _ hy) (by rw [hsz]; exact text_fit (by omega)) ?_)
  intro t' k'
  rw [hsz, join_text]
  k_steps
  exact spec_ret hret (by assumption) (by assumption) (by assumption) (by assumption) (by assumption) ⟨_, rfl⟩
end
section
theorem app_inj {c : Nat} : ∀ (a b x y : List Nat), c ∉ a → c ∉ b → a ++ c :: x = b ++ c :: y → a = b ∧ x = y
  | [], [], x, y, _, _, h => ⟨rfl, by injection h⟩
  | [], b0 :: b, x, y, _, hb, h => by
    injection h with h1 _
    exact absurd (h1 ▸ List.Mem.head _) hb
  | a0 :: a, [], x, y, ha, _, h => by
    injection h with h1 _
    exact absurd (h1 ▸ List.Mem.head _) ha
  | a0 :: a, b0 :: b, x, y, ha, hb, h => by
    injection h with h1 h2
    have := app_inj a b x y (fun z => ha (.tail _ z)) (fun z => hb (.tail _ z)) h2
    exact ⟨by rw [h1, this.1], this.2⟩
theorem join_cons2 (c : Nat) (p q : Str) (r : List Str) : (Str.join ⟨#[c]⟩ (p :: q :: r)).cps.toList = p.cps.toList ++ c :: (Str.join ⟨#[c]⟩ (q :: r)).cps.toList := by
  show (p ++ ⟨#[c]⟩ ++ Str.join ⟨#[c]⟩ (q :: r)).cps.toList = _
  rw [Str.cps_append, Str.cps_append]
  simp
theorem join_one (c : Nat) (p : Str) : (Str.join ⟨#[c]⟩ [p]).cps.toList = p.cps.toList := rfl
theorem join_inj (c : Nat) : ∀ (A B : List Str), A ≠ [] → B ≠ [] → (∀ p ∈ A, c ∉ p.cps.toList) → (∀ p ∈ B, c ∉ p.cps.toList) → (Str.join ⟨#[c]⟩ A).cps.toList = (Str.join ⟨#[c]⟩ B).cps.toList → A = B
  | [], _, h, _, _, _, _ => absurd rfl h
  | _, [], _, h, _, _, _ => absurd rfl h
  | [a], [b], _, _, _, _, h => by
    rw [join_one, join_one] at h
    rw [Str.ext' (Array.toList_inj.mp h)]
  | [a], b :: b' :: B, _, _, hA, _, h => by
    rw [join_one, join_cons2] at h
    exact absurd (by rw [h]; simp) (hA a (.head _))
  | a :: a' :: A, [b], _, _, _, hB, h => by
    rw [join_one, join_cons2] at h
    exact absurd (by rw [← h]; simp) (hB b (.head _))
  | a :: a' :: A, b :: b' :: B, _, _, hA, hB, h => by
    rw [join_cons2, join_cons2] at h
    obtain ⟨h1, h2⟩ := app_inj _ _ _ _ (hA a (.head _)) (hB b (.head _)) h
    have := join_inj c (a' :: A) (b' :: B) (by simp) (by simp) (fun p hp => hA p (.tail _ hp)) (fun p hp => hB p (.tail _ hp)) h2
    rw [Str.ext' (Array.toList_inj.mp h1), this]
theorem split_txt {c : Nat} (hc : c ≠ 34) (n k : Nat) : Txt.split (ofL (txt n k c)) (Str.ofString "\"") = (List.range (k + 1)).map fun j => ofL (pc n c j) := by
  have hq : Str.ofString "\"" = ⟨#[34]⟩ := lit_q
  rw [hq]
  refine join_inj 34 _ _ ?_ ?_ (StrLaws.split_free _ 34) ?_ ?_
  · intro h
    have := split_pos (ofL (txt n k c)) ⟨#[34]⟩
    rw [h] at this
    exact absurd this (by decide)
  · rw [List.range_succ]; simp
  · intro p hp
    obtain ⟨j, _, rfl⟩ := List.mem_map.mp hp
    show 34 ∉ (ofL (pc n c j)).cps.toList
    unfold pc
    split
    · simp [ofL, Ne.symm hc]
    · simp [ofL]
  · have e : Str.join ⟨#[34]⟩ ((List.range (k + 1)).map fun j => ofL (pc n c j)) = ofL (txt n k c) := by
      rw [← join_text n c k, ← hq]
      exact (StrLaws.glued_eq_join _ _).symm
    rw [StrLaws.join_split, e]
theorem txt_len (n c : Nat) : ∀ k i, (txtFrom n c k i).length ≤ 2 * k + 1
  | 0, i => pc_len n c i
  | k + 1, i => by
    have := txt_len n c k (i + 1)
    have := pc_len n c i
    rw [txtFrom, List.length_append, List.length_cons]
    omega
section
variable {prog : Program} {w : World} {A : Around} {E : Value → Shared → Prop} {s : Shared} {h₀ : Heap} {L : Addr} {m : Str → Option Value} {news : List (Addr × Obj)} {Q : Value → Shared → Prop}
theorem split_rule {n k c : Nat} {t u : Tok} (hc : c ≠ 34) (hk : k < 20) (F : Fr h₀ L s.heap m) (N : News h₀ L s.heap news)
    (h : ∀ (D : Addr) (vs : List Value) (h' : Heap) (k' : Nat), (∀ p ∈ news, p.1 < D) → vs.length = k + 1 → (∀ i, i < k + 1 → ∃ t, vs[i]? = some (.str (ofL (pc n c i)) t)) → Fr h₀ L h' m → News h₀ L h' ((D, { cls := .type "list", data := .seq vs.toArray }) :: news) → Q (.ref D) { s with heap := h', toks := k' }) :
    wpAny (model prog w) A (call (.builtin "str.split") [.str (ofL (txt n k c)) t, .str (Str.ofString "\"") u]) Q E s := by
  refine splitN1 F N (by decide) ?_ (by rw [ofL_len, sizeLine_eq]; have := txt_len n c k 0; unfold txt; omega)
  intro l h' k' hl F' N'
  rw [split_txt hc] at hl
  have hll : l.length = k + 1 := by have := congrArg List.length hl; simpa using this
  refine h _ (strValues l) h' k' (fun p hp => Heap.lt_size (N p hp).1) (by simp [strValues, hll]) (fun i hi => ?_) F' N'
  have e := congrArg (fun x => x[i]?) hl
  have hil : i < l.length := hll ▸ hi
  simp only [List.getElem?_map, List.getElem?_eq_getElem hil, Option.map_some] at e
  rw [List.getElem?_range hi] at e
  simp only [Option.map_some, Option.some.injEq] at e
  exact ⟨l[i].2, by simp [strValues, List.getElem?_eq_getElem hil, e]⟩
theorem item_list {value slice : PySem.Expr} {l : Addr} {vs : List Value} {i : Nat} {k : Int} {u : Tok} {v : Value} (hl : s.heap.IsList l vs.toArray) (hk : k = (i : Int)) (hb : i < 1000000) (hx : vs[i]? = some v) (h : Q v s)
    (hs : subscripted slice false (.ref l) (.int k u) = operate [.ref l, .int k u] (getItem (.ref l) (.int k u)) := by with_unfolding_all rfl) :
    wpAny (model prog w) A (subscriptTail value slice (.ref l) (.int k u)) Q E s := by
  subst hk
  exact tail_any hl.typeIs slot_list_getitem.lookup (wpAny_getItem_list hl (by omega) (by omega) (by simpa using hx) h) hs
end
theorem ints_of : ∀ (ys : List Value) (f : Nat → Int), (∀ i y, ys[i]? = some y → ∃ t, y = Value.int (f i) t) → IntsAre ys ((List.range ys.length).map f)
  | [], _, _ => by simpa using IntsAre.nil
  | y :: ys, f, h => by
    obtain ⟨t, e⟩ := h 0 y rfl
    have ih := ints_of ys (fun i => f (i + 1)) fun i z hz => h (i + 1) z (by simpa using hz)
    rw [e, List.length_cons, List.range_succ_eq_map, List.map_cons, List.map_map]
    exact IntsAre.cons _ t ih
theorem bits_sum (n c : Nat) : ∀ k, ((List.range k).map fun i => (((pc n c i).length * 2 ^ i : Nat) : Int)).sum = ((n % 2 ^ k : Nat) : Int)
  | 0 => by simp [Nat.mod_one]
  | k + 1 => by
    rw [List.range_succ, List.map_append, List.sum_append, bits_sum n c k]
    have e : (pc n c k).length = n / 2 ^ k % 2 := by
      unfold pc
      split
      · rename_i h; rw [h]; rfl
      · rename_i h; exact ((Nat.mod_two_eq_zero_or_one (n / 2 ^ k)).resolve_right h).symm
    have := Nat.mod_pow_succ (b := 2) (k := k) (x := n)
    simp only [List.map_cons, List.map_nil, List.sum_cons, List.sum_nil, e]
    rw [this, Nat.mul_comm]
    omega
theorem number_spec (w : World) (n k c : Nat) (t1 : Tok) (hc : c ≠ 34) (hk : k < 20) :
    Spec 4 w 146 [.str (ofL (txt n k c)) t1] (fun _ => True) [] (fun r _ => ∃ t, r = .int (n % 2 ^ (k + 1) : Nat) t) := by
  unfold Spec SpecK
  k_fill
  intro p loose mean mg mb dp un gd cn cs a ccd cl outer A₀ base h₀ L m s Q E B F X N _ T hk9 hdp hun hret
  w_on
  k_with_none
  k_with "mine enterC" => (k_dflt (refine' enterMC (args := ⟨_, _⟩) ?zq2B ?zq2F ?zq2X ?zq2N ?zq2T ?zq2kA ?zq2kF ?zq2kK ?zq2k6 ?zq2k7 ?zq2k8 ?zq2k9 ?zq2kB ?zq2kD ?_ ?zq2c2 ?zq2c3 ?zq2c4; (case zq2kA => exact rfl); (case zq2kF => exact rfl); (case zq2kK => assumption); (case zq2B => k_asm); (case zq2F => k_asm); (case zq2X => k_asm); (case zq2N => k_asm); (case zq2T => k_asm); (case zq2k6 => k_is); (case zq2k7 => k_is); (case zq2k8 => walk_at "mine units"); (case zq2k9 => first | exact BindsTo.of_eq rfl | exact binds_K (by k_in) rfl (by k_is) rfl rfl rfl); (case zq2kB => exact rfl); (case zq2kD => decide +kernel); (case zq2c2 => exact rfl); (case zq2c3 => exact rfl); (case zq2c4 => exact rfl); k_whole; intro g' L' h' tk' cells' hg' F' N' Y' B' X' T' l1; (try k_lt l1); k_cells Y'; (try simp only [List.cons_append, List.nil_append] at N'); (try dsimp only); (try k_fold)))
  k_with "LeaveM" => ((k_dflt (refine' leaveM_ ?zq3k1 ?zq3k2 ?_; (case zq3k1 => k_asm); (case zq3k2 => k_asm); k_whole); intro kF kN kK kO))
  k_with "mine step" => (first | (k_unfold; (try dsimp only)) | walk1 | (dsimp only; walk1))
  k_with "mine to CompSrc" => (repeat' ((fail_if_success (with_reducible show LCg.CompSrc _ _ _ _ _ _ _ _ _ _ _ _ _ _)); walk_at "mine step"))
  k_with "execs cons" => (k_fold)
  k_with "storeName" => (dsimp only)
  k_with "newList" => (dsimp only)
  k_with "newTuple" => (dsimp only)
  k_with "truthy bool" => (dsimp only)
  k_with "spliced" => (dsimp only)
  k_with "callWith ref" => (dsimp only)
  k_with "compareOp" => (dsimp only)
  k_with "call ref" => (dsimp only)
  k_with "mine units" => (k_dflt (first | exact unit0 (by assumption) | exact unit1 (by assumption) (by exact rfl) | exact unit2 (by assumption) (by exact rfl) | exact unit3 (by assumption) (by exact rfl) | decide))
  k_with "mine and" => ((first | with_reducible assumption | (apply And.right; first | with_reducible assumption | (apply And.right; first | with_reducible assumption | (apply And.right; first | with_reducible assumption | (apply And.right; first | with_reducible assumption | (apply And.right; first | with_reducible assumption | (apply And.right; first | with_reducible assumption | (apply And.right; first | with_reducible assumption | (apply And.right; with_reducible assumption))))))))))
  k_with "mine in" => (first | (apply And.left; walk_at "mine and") | walk_at "mine and")
  k_with "mine ne" => ((try dsimp only); first | (apply Nat.ne_of_lt; walk_at "mine in") | (apply Nat.ne_of_gt; walk_at "mine in") | walk_at "mine in" | (apply Ne.symm; walk_at "mine in"))
  k_with "call builtin:str.split" => ((k_dflt (refine' split_rule ?zq26c ?zq26k ?zq26F ?zq26N ?_; (case zq26c => assumption); (case zq26k => assumption); (case zq26F => k_asm); (case zq26N => k_asm)); intro D9 vs9 h9 k9 l9 e9 g9 F9 N9; (try k_lt l9)))
  k_with "call builtin:len cons nil" => ((k_here; first
    | ((with_reducible show wpAny _ _ (call _ [Value.ref _]) _ _ _); k_dflt (refine Calls.call_len_list (items := _) (News.isList (by k_asm) (by k_mem)) ?zq27z ?_; (case zq27z => (rw [List.size_toArray]; omega)); rw [List.size_toArray]))
    | ((with_reducible show wpAny _ _ (call _ [Value.str _ _]) _ _ _); k_dflt (refine P.len_str ?zq27z ?_; (case zq27z => (rw [ofL_len]; omega)); rw [ofL_len]))))
  k_with "subscriptTail Name Name ref int" => ((k_here; k_dflt (refine' item_list ?zq28a ?zq28e ?zq28b ?zq28c ?_; (case zq28a => exact News.isList (by k_asm) (by k_mem)); (case zq28e => exact Int.zero_add _); (case zq28b => omega); (case zq28c => assumption); k_whole)))
  k_with "CompEnd" => ((refine comp_end (own := []) (by assumption) (by assumption) (by assumption) trivial ?_; exact ⟨_, int_eq (by rw [show (0 + (_ : Int)).toNat = _ from congrArg Int.toNat (Int.zero_add _), Int.toNat_natCast, mul_cast])⟩))
  walk_at "mine enterC"
  walk_at "mine to CompSrc"
  k_dflt (refine' LCg.CompSrc.range ?hh ?F ?N ?hr ?hsm ?hn ?hsz ?_; (case hr => assumption); (case hn => exact rangeSize_nat _ _); (case hh => exact rfl); (case F => k_asm); (case N => k_asm); (case hsm => exact small_one (by omega) (by omega) (by omega) (by omega)); (case hsz => rw [sizeLine_eq]; omega))
  intro g
  rename ∀ i, i < k + 1 → Exists _ => g9
  refine comp_turns (fun i v => ∃ t, v = .int (((pc n c i).length * 2 ^ i : Nat) : Int) t) ?_ trivial ?_
  · intro i v I oI C oC D m₂ ys h tk E' hi hP hC hx F N off ne _
    obtain ⟨t, rfl⟩ := hP
    rename _ = k + 1 => e9
    replace hi : i < k + 1 := Nat.lt_of_lt_of_eq hi e9
    have hi' := hi
    obtain ⟨tt, hx'⟩ := g9 i hi'
    have hpl := pc_len n c i
    k_steps
  intro ys hl hy
  k_steps
  rename _ = k + 1 => e9
  have hsz : ys.length = k + 1 := hl.trans e9
  have hI := ints_of ys _ hy
  rw [hsz] at hI
  k_dflt (refine LSm.sum_ints (by assumption) (by assumption) rfl (News.isList (by assumption) (.head _)) hI ?_)
  intro h2 tk2 t2 F2 N2
  rw [bits_sum]
  k_steps
  exact spec_ret hret (by assumption) (by assumption) (by assumption) (by assumption) (by assumption) ⟨_, rfl⟩
end
section
theorem text_call (w : World) (n size c : Nat) {x y : Int} (t1 t2 t3 : Tok) (hx : x = (n : Int)) (hy : y = (size : Int)) (h2 : size < 20) :
    Spec 4 w 141 [.int x t1, .int y t2, .str (ofL [c]) t3] (fun _ => True) [] (fun r _ => ∃ t, r = .str (ofL (txt n size c)) t) := by
  subst hx; subst hy
  exact text_spec w n size c t1 t2 t3 h2
theorem txt_le (n k c : Nat) : (txt n k c).length ≤ 2 * k + 1 := txt_len n c k 0
theorem lit_257b : Str.ofString "257 \"" = ofL [50, 53, 55, 32, 34] := by decide
theorem txt_29 {n k c : Nat} (h : k < 15) : (txt n k c).length < 30 := Nat.lt_of_le_of_lt (txt_le n k c) (by omega)
theorem txt_13 (n c : Nat) {k : Nat} (h : k ≤ 6) : (txt n k c).length ≤ 13 := Nat.le_trans (txt_le n k c) (Nat.succ_le_succ (Nat.mul_le_mul_left 2 h))
theorem half_cast (n : Nat) : Builtin.bitAnd (Int.fdiv (n : Int) 2) 1365 = ((n / 2 &&& 1365 : Nat) : Int) :=
  (congrArg (Builtin.bitAnd · 1365) (fdiv_cast n 2)).trans (and_cast _ 1365)
theorem told_spec (w : World) (n size c : Nat) (tail : List Nat) (t1 t2 t3 t4 : Tok) (hs : 0 < size) (h2 : size < 8) (ht : tail.length < 100) :
    Spec 8 w 153 [.int n t1, .int size t2, .str (ofL [c]) t3, .str (ofL tail) t4] (fun _ => True) [] (fun r _ => ∃ t, r = .str (ofL (scan (txt (n / 2 &&& 1365) (2 * size - 2) c ++ tail))) t) := by
  unfold Spec SpecK
  k_fill
  intro p loose mean mg mb dp un gd cn cs a ccd cl outer A₀ base h₀ L m s Q E B F X N _ T hk9 hdp hun hret
  w_on
  k_with_none
  have htl : (txt (n / 2 &&& 1365) (2 * size - 2) c).length < 30 := txt_29 (by omega)
  k_with "call ref" => (k_dflt (refine' spec_v0 (text_call w (n / 2 &&& 1365) (2 * size - 2) c _ _ _ ?h1 ?h2 ?h3) ?B ?F ?X ?N ?T ?hk ?hd ?hu trivial ?_; walk_at "mine ret"; (case h1 => exact half_cast n); (case h2 => exact (Int.ofNat_sub (Nat.mul_le_mul_left 2 hs)).symm); (case h3 => omega)); (intro t9 h9 tk9 F9 N9))
  k_with "call ref" => (k_dflt (refine' spec_v1 (parse_spec w (txt (n / 2 &&& 1365) (2 * size - 2) c ++ tail) _ ?h1) ?B ?F ?X ?N ?T ?hk ?hd ?hu trivial ?_; walk_at "mine ret"; (case h1 => rw [List.length_append]; omega)); (intro t9 h9 tk9 F9 N9))
  k_with "mine enter" => (k_dflt (refine' enterM (args := ⟨_, _⟩) ?zq1B ?zq1F ?zq1X ?zq1N ?zq1T ?zq1kA ?zq1kF ?zq1kK ?zq1k6 ?zq1k7 ?zq1k8 ?zq1k9 ?zq1kB ?_ ?zq1c2 ?zq1c3 ?zq1c4 ?zq1c5; (case zq1kA => exact rfl); (case zq1kF => exact rfl); (case zq1kK => assumption); (case zq1B => k_asm); (case zq1F => k_asm); (case zq1X => k_asm); (case zq1N => k_asm); (case zq1T => k_asm); (case zq1k6 => k_is); (case zq1k7 => k_is); (case zq1k8 => walk_at "mine units"); (case zq1k9 => first | exact BindsTo.of_eq rfl | exact binds_K (by k_in) rfl (by k_is) rfl rfl rfl); (case zq1c5 => decide); (case zq1kB => exact locs rfl); (case zq1c2 => exact rfl); (case zq1c3 => exact rfl); (case zq1c4 => exact rfl); k_whole; intro g' L' h' hg' F' N' B' X' T'; (try dsimp only); (try k_fold)))
  k_with "LeaveM" => ((k_dflt (refine' leaveM_ ?zq3k1 ?zq3k2 ?_; (case zq3k1 => k_asm); (case zq3k2 => k_asm); k_whole); intro kF kN kK kO))
  k_with "execs cons" => (k_fold)
  k_with "storeName" => (dsimp only)
  k_with "newList" => (dsimp only)
  k_with "newTuple" => (dsimp only)
  k_with "truthy bool" => (dsimp only)
  k_with "spliced" => (dsimp only)
  k_with "callWith ref" => (dsimp only)
  k_with "compareOp" => (dsimp only)
  k_with "call ref" => (dsimp only)
  k_with "mine ret" => (((case B => k_asm); (case F => k_asm); (case X => k_asm); (case N => k_asm); (case T => k_asm); (case hk => first | exact rfl | assumption); (case hd => walk_at "mine units"); (case hu => walk_at "mine units")))
  k_with "mine units" => (k_dflt (first | exact unit0 (by assumption) | exact unit1 (by assumption) (by exact rfl) | exact unit2 (by assumption) (by exact rfl) | exact unit3 (by assumption) (by exact rfl) | decide))
  k_with "mine and" => ((first | with_reducible assumption | (apply And.right; first | with_reducible assumption | (apply And.right; first | with_reducible assumption | (apply And.right; first | with_reducible assumption | (apply And.right; first | with_reducible assumption | (apply And.right; first | with_reducible assumption | (apply And.right; first | with_reducible assumption | (apply And.right; first | with_reducible assumption | (apply And.right; with_reducible assumption))))))))))
  k_with "mine in" => (first | (apply And.left; walk_at "mine and") | walk_at "mine and")
  k_with "mine ne" => ((try dsimp only); first | (apply Nat.ne_of_lt; walk_at "mine in") | (apply Nat.ne_of_gt; walk_at "mine in") | walk_at "mine in" | (apply Ne.symm; walk_at "mine in"))
  k_with "binaryOp Add str str" => ((k_here; k_dflt (refine KLn.add_n (m := 8388608) (k := 8388608) ?zq30a ?zq30b (by decide) ?_; (case zq30a => first | decide | (rw [ofL_len]; (try simp only [List.length_append, List.length_cons, List.length_nil]); omega)); (case zq30b => first | decide | (rw [ofL_len]; (try simp only [List.length_append, List.length_cons, List.length_nil]); omega)); intro _ _ _ _ _ _; (try rw [lit_257b]); rw [app_ofL]; (try simp only [List.cons_append, List.nil_append]))))
  walk_at "mine enter"
  k_steps
  exact spec_ret hret (by assumption) (by assumption) (by assumption) (by assumption) (by assumption) ⟨_, rfl⟩
end
section
theorem fn_keeps {g h : Heap} {L q : Addr} {m : Str → Option Value} (F : Fr g L h m) (x : FnAt q g) : FnAt q h := by
  obtain ⟨oc, od, fd, sl, e⟩ := x
  exact ⟨oc, od, fd, sl, F.keep _ _ e⟩
theorem mid_cast (p q : Nat) : Int.fdiv ((p : Int) + (q : Int)) 2 = (((p + q) / 2 : Nat) : Int) := fdiv_cast (p + q) 2
section
variable {n c p q x : Nat} {kv : Nat → Nat}
theorem bis_mid (h : (p : Int) < (q : Int)) : p ≤ (p + q) / 2 ∧ (p + q) / 2 < q :=
  have h := Int.ofNat_lt.mp h
  ⟨(Nat.le_div_iff_mul_le Nat.two_pos).mpr (by rw [Nat.mul_two]; exact Nat.add_le_add_left (Nat.le_of_lt h) p), Nat.div_lt_of_lt_mul (by rw [Nat.two_mul]; exact Nat.add_lt_add_right h q)⟩
theorem bis_start (hc : c ≤ n) : ∃ p q : Nat, (0 : Int) = (p : Int) ∧ (n : Int) = (q : Int) ∧ p ≤ c ∧ c ≤ q ∧ q ≤ n := ⟨0, n, rfl, rfl, Nat.zero_le _, hc, Nat.le_refl _⟩
theorem bisR_yes (hc : ∀ i, i < n → (i < c ↔ kv i ≤ x)) (_h2 : c ≤ q) (h3 : q ≤ n) (h1 : p ≤ c) (hlt : (p : Int) < (q : Int)) (h : (x : Int) < (kv ((p + q) / 2) : Int)) :
    ∃ p' q' : Nat, (p : Int) = (p' : Int) ∧ Int.fdiv ((p : Int) + (q : Int)) 2 = (q' : Int) ∧ p' ≤ c ∧ c ≤ q' ∧ q' ≤ n :=
  have m := (bis_mid hlt).2
  ⟨p, (p + q) / 2, rfl, mid_cast p q, h1, Nat.le_of_not_lt fun l => absurd (Int.ofNat_lt.mp h) (Nat.not_lt_of_le ((hc _ (Nat.lt_of_lt_of_le m h3)).mp l)), Nat.le_trans (Nat.le_of_lt m) h3⟩
theorem bisR_no (hc : ∀ i, i < n → (i < c ↔ kv i ≤ x)) (h2 : c ≤ q) (h3 : q ≤ n) (_h1 : p ≤ c) (hlt : (p : Int) < (q : Int)) (h : ¬ (x : Int) < (kv ((p + q) / 2) : Int)) :
    ∃ p' q' : Nat, Int.fdiv ((p : Int) + (q : Int)) 2 + 1 = (p' : Int) ∧ (q : Int) = (q' : Int) ∧ p' ≤ c ∧ c ≤ q' ∧ q' ≤ n :=
  ⟨(p + q) / 2 + 1, q, by rw [mid_cast]; rfl, rfl, (hc _ (Nat.lt_of_lt_of_le (bis_mid hlt).2 h3)).mpr (Nat.le_of_not_lt fun l => h (Int.ofNat_lt.mpr l)), h2, h3⟩
theorem bisL_yes (hc : ∀ i, i < n → (i < c ↔ kv i < x)) (h2 : c ≤ q) (h3 : q ≤ n) (_h1 : p ≤ c) (hlt : (p : Int) < (q : Int)) (h : (kv ((p + q) / 2) : Int) < (x : Int)) :
    ∃ p' q' : Nat, Int.fdiv ((p : Int) + (q : Int)) 2 + 1 = (p' : Int) ∧ (q : Int) = (q' : Int) ∧ p' ≤ c ∧ c ≤ q' ∧ q' ≤ n :=
  ⟨(p + q) / 2 + 1, q, by rw [mid_cast]; rfl, rfl, (hc _ (Nat.lt_of_lt_of_le (bis_mid hlt).2 h3)).mpr (Int.ofNat_lt.mp h), h2, h3⟩
theorem bisL_no (hc : ∀ i, i < n → (i < c ↔ kv i < x)) (_h2 : c ≤ q) (h3 : q ≤ n) (h1 : p ≤ c) (hlt : (p : Int) < (q : Int)) (h : ¬ (kv ((p + q) / 2) : Int) < (x : Int)) :
    ∃ p' q' : Nat, (p : Int) = (p' : Int) ∧ Int.fdiv ((p : Int) + (q : Int)) 2 = (q' : Int) ∧ p' ≤ c ∧ c ≤ q' ∧ q' ≤ n :=
  have m := (bis_mid hlt).2
  ⟨p, (p + q) / 2, rfl, mid_cast p q, h1, Nat.le_of_not_lt fun l => h (Int.ofNat_lt.mpr ((hc _ (Nat.lt_of_lt_of_le m h3)).mp l)), Nat.le_trans (Nat.le_of_lt m) h3⟩
theorem bis_less1 (hlt : (p : Int) < (q : Int)) : (Int.fdiv ((p : Int) + (q : Int)) 2).toNat - (p : Int).toNat < (q : Int).toNat - (p : Int).toNat := by
  rw [mid_cast]
  exact Nat.sub_lt_sub_right (bis_mid hlt).1 (bis_mid hlt).2
theorem bis_less2 (hlt : (p : Int) < (q : Int)) : (q : Int).toNat - (Int.fdiv ((p : Int) + (q : Int)) 2 + 1).toNat < (q : Int).toNat - (p : Int).toNat := by
  rw [mid_cast]
  exact Nat.sub_lt_sub_left (Int.ofNat_lt.mp hlt) (Nat.lt_succ_of_le (bis_mid hlt).1)
theorem bis_end (h1 : p ≤ c) (h2 : c ≤ q) (h : ¬ (p : Int) < (q : Int)) : (p : Int) = (c : Int) := congrArg Nat.cast (Nat.le_antisymm h1 (Nat.le_trans h2 (Nat.le_of_not_lt fun l => h (Int.ofNat_lt.mpr l))))
theorem mid_in (hlt : (p : Int) < (q : Int)) (h3 : q ≤ n) : (p + q) / 2 < n := Nat.lt_of_lt_of_le (bis_mid hlt).2 h3
end
noncomputable def fdAt (w : World) (f : Addr) : Option FuncData := ((hd.heap_39 w.params).lookup f).bind fun o => match o.data with
  | .func fd => some fd
  | _ => none
noncomputable def BindsAt (w : World) (f : Addr) (pos : List Value) (kw binds : List (Str × Value)) : Prop := ∀ fd, fdAt w f = some fd → ∀ s : Shared, (hd.heap_39 w.params).In s.heap → BindsTo s fd ⟨pos, kw⟩ binds
theorem bisR_gen (w : World) (kf l : Addr) (vs : List Value) (kv : Nat → Nat) (x c : Nat) (t t2 : Tok) (pos : List Value) (hb9 : BindsAt w 64 pos [(Str.ofString "key", .ref kf)] [(Str.ofString "a", .ref l), (Str.ofString "x", .int x t), (Str.ofString "lo", .int 0 t2), (Str.ofString "hi", .none), (Str.ofString "key", .ref kf)]) (Pk : Heap → Prop) (hmono : ∀ g h, Kept g h → Pk g → Pk h) (hfit : vs.length < 1000)
    (hkey : ∀ i v, vs[i]? = some v → Spec 4 w kf [v] Pk [] (fun r _ => ∃ t, r = .int (kv i : Nat) t)) (hc : ∀ i, i < vs.length → (i < c ↔ kv i ≤ x)) (hcl : c ≤ vs.length) :
    SpecK 8 w 64 pos [(Str.ofString "key", .ref kf)] (fun h => h.IsList l vs.toArray ∧ FnAt kf h ∧ Pk h) [] (fun r _ => ∃ t, r = .int (c : Nat) t) := by
  unfold SpecK
  k_fill
  intro p loose mean mg mb dp un gd cn cs a ccd cl outer A₀ base h₀ L m s Q E B F X N hP T hk9 hdp hun hret
  w_on
  k_with_none
  k_with "exec While Compare cons nil" => (k_dflt (k_while (fun _ lo hi => ∃ p q : Nat, lo = (p : Int) ∧ hi = (q : Int) ∧ p ≤ c ∧ c ≤ q ∧ q ≤ vs.length) (fun _ lo hi => hi.toNat - lo.toNat) "lo" "hi"); (rename Exists _ => hex); (obtain ⟨p, q, rfl, rfl, h1, h2, h3⟩ := hex))
  k_with "state" => first | exact bis_start hcl | exact bisR_yes hc h2 h3 h1 (by assumption) (by assumption) | exact bisR_no hc h2 h3 h1 (by assumption) (by assumption)
  k_with "measure" => first | exact bis_less1 (by assumption) | exact bis_less2 (by assumption)
  k_with "call ref" => (k_dflt (refine' spec_v0 (hkey ((p + q) / 2) _ (List.getElem?_eq_getElem _)) ?B ?F ?X ?N ?T ?hk ?hd ?hu ?hp ?_; walk_at "mine ret"; (case hp => exact hmono _ _ (fun b o e => Fr.keep (by assumption) b o e) hpk)); (intro t9 h9 tk9 F9 N9))
  k_with "LeaveM" => ((k_dflt (refine' leaveM_ ?zq3k1 ?zq3k2 ?_; (case zq3k1 => k_asm); (case zq3k2 => k_asm); k_whole); intro kF kN kK kO))
  k_with "execs cons" => (k_fold)
  k_with "storeName" => (dsimp only)
  k_with "newList" => (dsimp only)
  k_with "newTuple" => (dsimp only)
  k_with "truthy bool" => (dsimp only)
  k_with "spliced" => (dsimp only)
  k_with "callWith ref" => (dsimp only)
  k_with "compareOp" => (dsimp only)
  k_with "call ref" => (dsimp only)
  k_with "mine ret" => (((case B => k_asm); (case F => k_asm); (case X => k_asm); (case N => k_asm); (case T => k_asm); (case hk => first | exact rfl | assumption); (case hd => walk_at "mine units"); (case hu => walk_at "mine units")))
  k_with "mine units" => (k_dflt (first | exact unit0 (by assumption) | exact unit1 (by assumption) (by exact rfl) | exact unit2 (by assumption) (by exact rfl) | exact unit3 (by assumption) (by exact rfl) | decide))
  k_with "mine and" => ((first | with_reducible assumption | (apply And.right; first | with_reducible assumption | (apply And.right; first | with_reducible assumption | (apply And.right; first | with_reducible assumption | (apply And.right; first | with_reducible assumption | (apply And.right; first | with_reducible assumption | (apply And.right; first | with_reducible assumption | (apply And.right; first | with_reducible assumption | (apply And.right; with_reducible assumption))))))))))
  k_with "mine in" => (first | (apply And.left; walk_at "mine and") | walk_at "mine and")
  k_with "mine ne" => ((try dsimp only); first | (apply Nat.ne_of_lt; walk_at "mine in") | (apply Nat.ne_of_gt; walk_at "mine in") | walk_at "mine in" | (apply Ne.symm; walk_at "mine in"))
  k_with "callWith ref" => ((k_here; k_dflt (refine' callWith_F ?zq31k1 ?_; (case zq31k1 => exact fn_keeps (by assumption) (by assumption)); k_whole)))
  k_with "And" => ((refine ⟨fn_keeps (by assumption) (by assumption), ?_⟩; try dsimp only [List.nil_append, List.cons_append]))
  k_with "call builtin:len cons nil" => ((k_here; k_dflt (refine Calls.call_len_list (items := _) (stays_list (Fr.keep (by assumption)) (by assumption)) ?zq33z ?_; (case zq33z => (rw [List.size_toArray]; exact Int.lt_trans (Int.ofNat_lt.mpr hfit) (by decide))); rw [List.size_toArray])))
  k_with "subscriptTail Name Name ref int" => ((k_here; k_dflt (refine' item_list ?zq34a ?zq34e ?zq34b ?zq34c ?_; (case zq34a => exact stays_list (Fr.keep (by assumption)) (by assumption)); (case zq34e => exact mid_cast _ _); (case zq34b => exact Nat.lt_trans (mid_in (by assumption) h3) (Nat.lt_of_lt_of_le hfit (by decide))); (case zq34c => exact List.getElem?_eq_getElem (mid_in (by assumption) h3)); k_whole)))
  k_with "mine enterB" => (k_dflt (refine' enterM (args := ⟨_, _⟩) ?zq35B ?zq35F ?zq35X ?zq35N ?zq35T ?zq35kA ?zq35kF ?zq35kK ?zq35k6 ?zq35k7 ?zq35k8 ?zq35k9 ?zq35kB ?_ ?zq35c2 ?zq35c3 ?zq35c4 ?zq35c5; (case zq35kA => exact rfl); (case zq35kF => exact rfl); (case zq35kK => assumption); (case zq35B => k_asm); (case zq35F => k_asm); (case zq35X => k_asm); (case zq35N => k_asm); (case zq35T => k_asm); (case zq35k6 => k_is); (case zq35k7 => k_is); (case zq35k8 => walk_at "mine units"); (case zq35k9 => exact hb9 _ (by with_unfolding_all rfl) _ (by k_in)); (case zq35c5 => decide); (case zq35kB => exact locs rfl); (case zq35c2 => exact rfl); (case zq35c3 => exact rfl); (case zq35c4 => exact rfl); k_whole; intro g' L' h' hg' F' N' B' X' T'; (try dsimp only); (try k_fold)))
  walk_at "mine enterB"
  (rename _ = sans _ _ => hg)
  rw [← hg] at hP
  obtain ⟨hl, hfn, hpk⟩ := hP
  k_steps
  exact spec_ret hret (by assumption) (by assumption) (by assumption) (by assumption) (by assumption) ⟨_, int_eq (bis_end h1 h2 (by assumption))⟩
theorem bisR_spec (w : World) (kf l : Addr) (vs : List Value) (kv : Nat → Nat) (x c : Nat) (t : Tok) (Pk : Heap → Prop) (hmono : ∀ g h, Kept g h → Pk g → Pk h) (hfit : vs.length < 1000)
    (hkey : ∀ i v, vs[i]? = some v → Spec 4 w kf [v] Pk [] (fun r _ => ∃ t, r = .int (kv i : Nat) t)) (hc : ∀ i, i < vs.length → (i < c ↔ kv i ≤ x)) (hcl : c ≤ vs.length) :
    SpecK 8 w 64 [.ref l, .int x t] [(Str.ofString "key", .ref kf)] (fun h => h.IsList l vs.toArray ∧ FnAt kf h ∧ Pk h) [] (fun r _ => ∃ t, r = .int (c : Nat) t) := by
  refine bisR_gen w kf l vs kv x c t 251 _ ?hb Pk hmono hfit hkey hc hcl
  case hb =>
    intro fd h s X
    have h' : (some (fnOf _ _ _ _ _ _ _ _ _ _ _ _) : Option FuncData) = some fd := h
    cases h'
    exact binds_K X rfl (by k_is) rfl rfl (by kernel_rfl)
theorem bisR_spec4 (w : World) (kf l : Addr) (vs : List Value) (kv : Nat → Nat) (x c : Nat) (t t2 : Tok) (Pk : Heap → Prop) (hmono : ∀ g h, Kept g h → Pk g → Pk h) (hfit : vs.length < 1000)
    (hkey : ∀ i v, vs[i]? = some v → Spec 4 w kf [v] Pk [] (fun r _ => ∃ t, r = .int (kv i : Nat) t)) (hc : ∀ i, i < vs.length → (i < c ↔ kv i ≤ x)) (hcl : c ≤ vs.length) :
    SpecK 8 w 64 [.ref l, .int x t, .int 0 t2, .none] [(Str.ofString "key", .ref kf)] (fun h => h.IsList l vs.toArray ∧ FnAt kf h ∧ Pk h) [] (fun r _ => ∃ t, r = .int (c : Nat) t) := by
  refine bisR_gen w kf l vs kv x c t t2 _ ?hb Pk hmono hfit hkey hc hcl
  case hb =>
    intro fd h s X
    have h' : (some (fnOf _ _ _ _ _ _ _ _ _ _ _ _) : Option FuncData) = some fd := h
    cases h'
    exact binds_K X rfl (by k_is) rfl rfl (by kernel_rfl)
theorem bisL_gen (w : World) (kf l : Addr) (vs : List Value) (kv : Nat → Nat) (x c : Nat) (t t2 : Tok) (pos : List Value) (hb9 : BindsAt w 82 pos [(Str.ofString "key", .ref kf)] [(Str.ofString "a", .ref l), (Str.ofString "x", .int x t), (Str.ofString "lo", .int 0 t2), (Str.ofString "hi", .none), (Str.ofString "key", .ref kf)]) (Pk : Heap → Prop) (hmono : ∀ g h, Kept g h → Pk g → Pk h) (hfit : vs.length < 1000)
    (hkey : ∀ i v, vs[i]? = some v → Spec 4 w kf [v] Pk [] (fun r _ => ∃ t, r = .int (kv i : Nat) t)) (hc : ∀ i, i < vs.length → (i < c ↔ kv i < x)) (hcl : c ≤ vs.length) :
    SpecK 8 w 82 pos [(Str.ofString "key", .ref kf)] (fun h => h.IsList l vs.toArray ∧ FnAt kf h ∧ Pk h) [] (fun r _ => ∃ t, r = .int (c : Nat) t) := by
  unfold SpecK
  k_fill
  intro p loose mean mg mb dp un gd cn cs a ccd cl outer A₀ base h₀ L m s Q E B F X N hP T hk9 hdp hun hret
  w_on
  k_with_none
  k_with "exec While Compare cons nil" => (k_dflt (k_while (fun _ lo hi => ∃ p q : Nat, lo = (p : Int) ∧ hi = (q : Int) ∧ p ≤ c ∧ c ≤ q ∧ q ≤ vs.length) (fun _ lo hi => hi.toNat - lo.toNat) "lo" "hi"); (rename Exists _ => hex); (obtain ⟨p, q, rfl, rfl, h1, h2, h3⟩ := hex))
  k_with "state" => first | exact bis_start hcl | exact bisL_yes hc h2 h3 h1 (by assumption) (by assumption) | exact bisL_no hc h2 h3 h1 (by assumption) (by assumption)
  k_with "measure" => first | exact bis_less1 (by assumption) | exact bis_less2 (by assumption)
  k_with "call ref" => (k_dflt (refine' spec_v0 (hkey ((p + q) / 2) _ (List.getElem?_eq_getElem _)) ?B ?F ?X ?N ?T ?hk ?hd ?hu ?hp ?_; walk_at "mine ret"; (case hp => exact hmono _ _ (fun b o e => Fr.keep (by assumption) b o e) hpk)); (intro t9 h9 tk9 F9 N9))
  k_with "LeaveM" => ((k_dflt (refine' leaveM_ ?zq3k1 ?zq3k2 ?_; (case zq3k1 => k_asm); (case zq3k2 => k_asm); k_whole); intro kF kN kK kO))
  k_with "execs cons" => (k_fold)
  k_with "storeName" => (dsimp only)
  k_with "newList" => (dsimp only)
  k_with "newTuple" => (dsimp only)
  k_with "truthy bool" => (dsimp only)
  k_with "spliced" => (dsimp only)
  k_with "callWith ref" => (dsimp only)
  k_with "compareOp" => (dsimp only)
  k_with "call ref" => (dsimp only)
  k_with "mine ret" => (((case B => k_asm); (case F => k_asm); (case X => k_asm); (case N => k_asm); (case T => k_asm); (case hk => first | exact rfl | assumption); (case hd => walk_at "mine units"); (case hu => walk_at "mine units")))
  k_with "mine units" => (k_dflt (first | exact unit0 (by assumption) | exact unit1 (by assumption) (by exact rfl) | exact unit2 (by assumption) (by exact rfl) | exact unit3 (by assumption) (by exact rfl) | decide))
  k_with "mine and" => ((first | with_reducible assumption | (apply And.right; first | with_reducible assumption | (apply And.right; first | with_reducible assumption | (apply And.right; first | with_reducible assumption | (apply And.right; first | with_reducible assumption | (apply And.right; first | with_reducible assumption | (apply And.right; first | with_reducible assumption | (apply And.right; first | with_reducible assumption | (apply And.right; with_reducible assumption))))))))))
  k_with "mine in" => (first | (apply And.left; walk_at "mine and") | walk_at "mine and")
  k_with "mine ne" => ((try dsimp only); first | (apply Nat.ne_of_lt; walk_at "mine in") | (apply Nat.ne_of_gt; walk_at "mine in") | walk_at "mine in" | (apply Ne.symm; walk_at "mine in"))
  k_with "callWith ref" => ((k_here; k_dflt (refine' callWith_F ?zq31k1 ?_; (case zq31k1 => exact fn_keeps (by assumption) (by assumption)); k_whole)))
  k_with "And" => ((refine ⟨fn_keeps (by assumption) (by assumption), ?_⟩; try dsimp only [List.nil_append, List.cons_append]))
  k_with "call builtin:len cons nil" => ((k_here; k_dflt (refine Calls.call_len_list (items := _) (stays_list (Fr.keep (by assumption)) (by assumption)) ?zq33z ?_; (case zq33z => (rw [List.size_toArray]; exact Int.lt_trans (Int.ofNat_lt.mpr hfit) (by decide))); rw [List.size_toArray])))
  k_with "subscriptTail Name Name ref int" => ((k_here; k_dflt (refine' item_list ?zq34a ?zq34e ?zq34b ?zq34c ?_; (case zq34a => exact stays_list (Fr.keep (by assumption)) (by assumption)); (case zq34e => exact mid_cast _ _); (case zq34b => exact Nat.lt_trans (mid_in (by assumption) h3) (Nat.lt_of_lt_of_le hfit (by decide))); (case zq34c => exact List.getElem?_eq_getElem (mid_in (by assumption) h3)); k_whole)))
  k_with "mine enterB" => (k_dflt (refine' enterM (args := ⟨_, _⟩) ?zq35B ?zq35F ?zq35X ?zq35N ?zq35T ?zq35kA ?zq35kF ?zq35kK ?zq35k6 ?zq35k7 ?zq35k8 ?zq35k9 ?zq35kB ?_ ?zq35c2 ?zq35c3 ?zq35c4 ?zq35c5; (case zq35kA => exact rfl); (case zq35kF => exact rfl); (case zq35kK => assumption); (case zq35B => k_asm); (case zq35F => k_asm); (case zq35X => k_asm); (case zq35N => k_asm); (case zq35T => k_asm); (case zq35k6 => k_is); (case zq35k7 => k_is); (case zq35k8 => walk_at "mine units"); (case zq35k9 => exact hb9 _ (by with_unfolding_all rfl) _ (by k_in)); (case zq35c5 => decide); (case zq35kB => exact locs rfl); (case zq35c2 => exact rfl); (case zq35c3 => exact rfl); (case zq35c4 => exact rfl); k_whole; intro g' L' h' hg' F' N' B' X' T'; (try dsimp only); (try k_fold)))
  walk_at "mine enterB"
  (rename _ = sans _ _ => hg)
  rw [← hg] at hP
  obtain ⟨hl, hfn, hpk⟩ := hP
  k_steps
  exact spec_ret hret (by assumption) (by assumption) (by assumption) (by assumption) (by assumption) ⟨_, int_eq (bis_end h1 h2 (by assumption))⟩
theorem bisL_spec (w : World) (kf l : Addr) (vs : List Value) (kv : Nat → Nat) (x c : Nat) (t : Tok) (Pk : Heap → Prop) (hmono : ∀ g h, Kept g h → Pk g → Pk h) (hfit : vs.length < 1000)
    (hkey : ∀ i v, vs[i]? = some v → Spec 4 w kf [v] Pk [] (fun r _ => ∃ t, r = .int (kv i : Nat) t)) (hc : ∀ i, i < vs.length → (i < c ↔ kv i < x)) (hcl : c ≤ vs.length) :
    SpecK 8 w 82 [.ref l, .int x t] [(Str.ofString "key", .ref kf)] (fun h => h.IsList l vs.toArray ∧ FnAt kf h ∧ Pk h) [] (fun r _ => ∃ t, r = .int (c : Nat) t) := by
  refine bisL_gen w kf l vs kv x c t 278 _ ?hb Pk hmono hfit hkey hc hcl
  case hb =>
    intro fd h s X
    have h' : (some (fnOf _ _ _ _ _ _ _ _ _ _ _ _) : Option FuncData) = some fd := h
    cases h'
    exact binds_K X rfl (by k_is) rfl rfl (by kernel_rfl)
theorem bisL_spec4 (w : World) (kf l : Addr) (vs : List Value) (kv : Nat → Nat) (x c : Nat) (t t2 : Tok) (Pk : Heap → Prop) (hmono : ∀ g h, Kept g h → Pk g → Pk h) (hfit : vs.length < 1000)
    (hkey : ∀ i v, vs[i]? = some v → Spec 4 w kf [v] Pk [] (fun r _ => ∃ t, r = .int (kv i : Nat) t)) (hc : ∀ i, i < vs.length → (i < c ↔ kv i < x)) (hcl : c ≤ vs.length) :
    SpecK 8 w 82 [.ref l, .int x t, .int 0 t2, .none] [(Str.ofString "key", .ref kf)] (fun h => h.IsList l vs.toArray ∧ FnAt kf h ∧ Pk h) [] (fun r _ => ∃ t, r = .int (c : Nat) t) := by
  refine bisL_gen w kf l vs kv x c t t2 _ ?hb Pk hmono hfit hkey hc hcl
  case hb =>
    intro fd h s X
    have h' : (some (fnOf _ _ _ _ _ _ _ _ _ _ _ _) : Option FuncData) = some fd := h
    cases h'
    exact binds_K X rfl (by k_is) rfl rfl (by kernel_rfl)
end
section
theorem ins_cast {vs : List Value} {c : Nat} (y : Value) (hc : c ≤ vs.length) : kl_ins vs (c : Int) y = vs.take c ++ y :: vs.drop c := by
  unfold kl_ins
  have e : (if (c : Int) < 0 then ((c : Int) + (vs.length : Int)).toNat else min (c : Int).toNat vs.length) = c := by
    rw [if_neg (by omega), Int.toNat_natCast, Nat.min_eq_left hc]
  rw [e]
theorem fits_index {c : Nat} (h : c < 1000000) : Builtin.List.listFitsIndex (c : Int) = true := by
  unfold Builtin.List.listFitsIndex
  simp
  omega
theorem insR_spec (w : World) (kf l : Addr) (vs : List Value) (n : Nat) (xv : Value) (kv : Nat → Nat) (kx c : Nat) (Pk : Heap → Prop) (hmono : ∀ g h, Kept g h → Pk g → Pk h) (hfit : vs.length < 1000)
    (hkey : ∀ i v, vs[i]? = some v → Spec 4 w kf [v] Pk [] (fun r _ => ∃ t, r = .int (kv i : Nat) t)) (hkx : Spec 4 w kf [xv] Pk [] (fun r _ => ∃ t, r = .int (kx : Nat) t)) (hc : ∀ i, i < vs.length → (i < c ↔ kv i ≤ kx)) (hcl : c ≤ vs.length) :
    SpecK 12 w 55 [.ref l, xv] [(Str.ofString "key", .ref kf)] (fun h => FnAt kf h ∧ Pk h) [(l, listOf vs.toArray n)] (fun r nx => r = .none ∧ nx = [(l, listOf (vs.take c ++ xv :: vs.drop c).toArray (n + 1))]) := by
  unfold SpecK
  k_fill
  intro p loose mean mg mb dp un gd cn cs a ccd cl outer A₀ base h₀ L m s Q E B F X N hP T hk9 hdp hun hret
  w_on
  k_with_none
  k_with "call ref" => (k_dflt (refine' spec_v0 hkx ?B ?F ?X ?N ?T ?hk ?hd ?hu ?hp ?_; walk_at "mine ret"; (case hp => exact hmono _ _ (fun b o e => Fr.keep (by assumption) b o e) hpk)); (intro t9 h9 tk9 F9 N9))
  k_with "call ref" => (k_dflt (refine' spec_v0 (bisR_spec4 w kf l vs kv kx c _ _ Pk hmono hfit hkey hc hcl) ?B ?F ?X ?N ?T ?hk ?hd ?hu ?hp ?_; walk_at "mine ret"; (case hp => exact ⟨News.isList (by assumption) (.head _), fn_keeps (by assumption) hfn, hmono _ _ (fun b o e => Fr.keep (by assumption) b o e) hpk⟩)); (intro t9 h9 tk9 F9 N9))
  k_with "mine enter" => (k_dflt (refine' enterM (args := ⟨_, _⟩) ?zq1B ?zq1F ?zq1X ?zq1N ?zq1T ?zq1kA ?zq1kF ?zq1kK ?zq1k6 ?zq1k7 ?zq1k8 ?zq1k9 ?zq1kB ?_ ?zq1c2 ?zq1c3 ?zq1c4 ?zq1c5; (case zq1kA => exact rfl); (case zq1kF => exact rfl); (case zq1kK => assumption); (case zq1B => k_asm); (case zq1F => k_asm); (case zq1X => k_asm); (case zq1N => k_asm); (case zq1T => k_asm); (case zq1k6 => k_is); (case zq1k7 => k_is); (case zq1k8 => walk_at "mine units"); (case zq1k9 => first | exact BindsTo.of_eq rfl | exact binds_K (by k_in) rfl (by k_is) rfl rfl rfl); (case zq1c5 => decide); (case zq1kB => exact locs rfl); (case zq1c2 => exact rfl); (case zq1c3 => exact rfl); (case zq1c4 => exact rfl); k_whole; intro g' L' h' hg' F' N' B' X' T'; (try dsimp only); (try k_fold)))
  k_with "LeaveM" => ((k_dflt (refine' leaveM_ ?zq3k1 ?zq3k2 ?_; (case zq3k1 => k_asm); (case zq3k2 => k_asm); k_whole); intro kF kN kK kO))
  k_with "execs cons" => (k_fold)
  k_with "storeName" => (dsimp only)
  k_with "newList" => (dsimp only)
  k_with "newTuple" => (dsimp only)
  k_with "truthy bool" => (dsimp only)
  k_with "spliced" => (dsimp only)
  k_with "callWith ref" => (dsimp only)
  k_with "compareOp" => (dsimp only)
  k_with "call ref" => (dsimp only)
  k_with "mine ret" => (((case B => k_asm); (case F => k_asm); (case X => k_asm); (case N => k_asm); (case T => k_asm); (case hk => first | exact rfl | assumption); (case hd => walk_at "mine units"); (case hu => walk_at "mine units")))
  k_with "mine units" => (k_dflt (first | exact unit0 (by assumption) | exact unit1 (by assumption) (by exact rfl) | exact unit2 (by assumption) (by exact rfl) | exact unit3 (by assumption) (by exact rfl) | decide))
  k_with "mine and" => ((first | with_reducible assumption | (apply And.right; first | with_reducible assumption | (apply And.right; first | with_reducible assumption | (apply And.right; first | with_reducible assumption | (apply And.right; first | with_reducible assumption | (apply And.right; first | with_reducible assumption | (apply And.right; first | with_reducible assumption | (apply And.right; first | with_reducible assumption | (apply And.right; with_reducible assumption))))))))))
  k_with "mine in" => (first | (apply And.left; walk_at "mine and") | walk_at "mine and")
  k_with "mine ne" => ((try dsimp only); first | (apply Nat.ne_of_lt; walk_at "mine in") | (apply Nat.ne_of_gt; walk_at "mine in") | walk_at "mine in" | (apply Ne.symm; walk_at "mine in"))
  k_with "callWith ref" => ((k_here; k_dflt (refine' callWith_F ?zq36k1 ?_; (case zq36k1 => exact fn_keeps (by assumption) (by assumption)); k_whole)))
  k_with "And" => (((with_reducible show FnAt _ _ ∧ _); refine ⟨fn_keeps (by assumption) (by assumption), ?_⟩; try dsimp only [List.nil_append, List.cons_append]))
  k_with "call builtin:list.insert" => ((k_dflt (refine' kl_insert ?zq38F ?zq38N ?zq38f ?zq38e ?zq38U ?zq38z ?_; (case zq38F => k_asm); (case zq38N => k_asm); (case zq38f => exact fits_index (by omega)); (case zq38e => exact ins_cast _ (by assumption)); (case zq38U => exact Upd.head (fun _ h => nomatch h)); (case zq38z => (rw [List.toList_toArray, sizeLine_eq]; omega))); intro h' F' N'))
  walk_at "mine enter"
  (rename _ = sans _ _ => hg)
  rw [← hg] at hP
  obtain ⟨hfn, hpk⟩ := hP
  k_steps
  exact spec_ret hret (by assumption) (by assumption) (by assumption) (by assumption) (by assumption) ⟨rfl, rfl⟩
theorem insL_spec (w : World) (kf l : Addr) (vs : List Value) (n : Nat) (xv : Value) (kv : Nat → Nat) (kx c : Nat) (Pk : Heap → Prop) (hmono : ∀ g h, Kept g h → Pk g → Pk h) (hfit : vs.length < 1000)
    (hkey : ∀ i v, vs[i]? = some v → Spec 4 w kf [v] Pk [] (fun r _ => ∃ t, r = .int (kv i : Nat) t)) (hkx : Spec 4 w kf [xv] Pk [] (fun r _ => ∃ t, r = .int (kx : Nat) t)) (hc : ∀ i, i < vs.length → (i < c ↔ kv i < kx)) (hcl : c ≤ vs.length) :
    SpecK 12 w 73 [.ref l, xv] [(Str.ofString "key", .ref kf)] (fun h => FnAt kf h ∧ Pk h) [(l, listOf vs.toArray n)] (fun r nx => r = .none ∧ nx = [(l, listOf (vs.take c ++ xv :: vs.drop c).toArray (n + 1))]) := by
  unfold SpecK
  k_fill
  intro p loose mean mg mb dp un gd cn cs a ccd cl outer A₀ base h₀ L m s Q E B F X N hP T hk9 hdp hun hret
  w_on
  k_with_none
  k_with "call ref" => (k_dflt (refine' spec_v0 hkx ?B ?F ?X ?N ?T ?hk ?hd ?hu ?hp ?_; walk_at "mine ret"; (case hp => exact hmono _ _ (fun b o e => Fr.keep (by assumption) b o e) hpk)); (intro t9 h9 tk9 F9 N9))
  k_with "call ref" => (k_dflt (refine' spec_v0 (bisL_spec4 w kf l vs kv kx c _ _ Pk hmono hfit hkey hc hcl) ?B ?F ?X ?N ?T ?hk ?hd ?hu ?hp ?_; walk_at "mine ret"; (case hp => exact ⟨News.isList (by assumption) (.head _), fn_keeps (by assumption) hfn, hmono _ _ (fun b o e => Fr.keep (by assumption) b o e) hpk⟩)); (intro t9 h9 tk9 F9 N9))
  k_with "mine enter" => (k_dflt (refine' enterM (args := ⟨_, _⟩) ?zq1B ?zq1F ?zq1X ?zq1N ?zq1T ?zq1kA ?zq1kF ?zq1kK ?zq1k6 ?zq1k7 ?zq1k8 ?zq1k9 ?zq1kB ?_ ?zq1c2 ?zq1c3 ?zq1c4 ?zq1c5; (case zq1kA => exact rfl); (case zq1kF => exact rfl); (case zq1kK => assumption); (case zq1B => k_asm); (case zq1F => k_asm); (case zq1X => k_asm); (case zq1N => k_asm); (case zq1T => k_asm); (case zq1k6 => k_is); (case zq1k7 => k_is); (case zq1k8 => walk_at "mine units"); (case zq1k9 => first | exact BindsTo.of_eq rfl | exact binds_K (by k_in) rfl (by k_is) rfl rfl rfl); (case zq1c5 => decide); (case zq1kB => exact locs rfl); (case zq1c2 => exact rfl); (case zq1c3 => exact rfl); (case zq1c4 => exact rfl); k_whole; intro g' L' h' hg' F' N' B' X' T'; (try dsimp only); (try k_fold)))
  k_with "LeaveM" => ((k_dflt (refine' leaveM_ ?zq3k1 ?zq3k2 ?_; (case zq3k1 => k_asm); (case zq3k2 => k_asm); k_whole); intro kF kN kK kO))
  k_with "execs cons" => (k_fold)
  k_with "storeName" => (dsimp only)
  k_with "newList" => (dsimp only)
  k_with "newTuple" => (dsimp only)
  k_with "truthy bool" => (dsimp only)
  k_with "spliced" => (dsimp only)
  k_with "callWith ref" => (dsimp only)
  k_with "compareOp" => (dsimp only)
  k_with "call ref" => (dsimp only)
  k_with "mine ret" => (((case B => k_asm); (case F => k_asm); (case X => k_asm); (case N => k_asm); (case T => k_asm); (case hk => first | exact rfl | assumption); (case hd => walk_at "mine units"); (case hu => walk_at "mine units")))
  k_with "mine units" => (k_dflt (first | exact unit0 (by assumption) | exact unit1 (by assumption) (by exact rfl) | exact unit2 (by assumption) (by exact rfl) | exact unit3 (by assumption) (by exact rfl) | decide))
  k_with "mine and" => ((first | with_reducible assumption | (apply And.right; first | with_reducible assumption | (apply And.right; first | with_reducible assumption | (apply And.right; first | with_reducible assumption | (apply And.right; first | with_reducible assumption | (apply And.right; first | with_reducible assumption | (apply And.right; first | with_reducible assumption | (apply And.right; first | with_reducible assumption | (apply And.right; with_reducible assumption))))))))))
  k_with "mine in" => (first | (apply And.left; walk_at "mine and") | walk_at "mine and")
  k_with "mine ne" => ((try dsimp only); first | (apply Nat.ne_of_lt; walk_at "mine in") | (apply Nat.ne_of_gt; walk_at "mine in") | walk_at "mine in" | (apply Ne.symm; walk_at "mine in"))
  k_with "callWith ref" => ((k_here; k_dflt (refine' callWith_F ?zq36k1 ?_; (case zq36k1 => exact fn_keeps (by assumption) (by assumption)); k_whole)))
  k_with "And" => (((with_reducible show FnAt _ _ ∧ _); refine ⟨fn_keeps (by assumption) (by assumption), ?_⟩; try dsimp only [List.nil_append, List.cons_append]))
  k_with "call builtin:list.insert" => ((k_dflt (refine' kl_insert ?zq38F ?zq38N ?zq38f ?zq38e ?zq38U ?zq38z ?_; (case zq38F => k_asm); (case zq38N => k_asm); (case zq38f => exact fits_index (by omega)); (case zq38e => exact ins_cast _ (by assumption)); (case zq38U => exact Upd.head (fun _ h => nomatch h)); (case zq38z => (rw [List.toList_toArray, sizeLine_eq]; omega))); intro h' F' N'))
  walk_at "mine enter"
  (rename _ = sans _ _ => hg)
  rw [← hg] at hP
  obtain ⟨hfn, hpk⟩ := hP
  k_steps
  exact spec_ret hret (by assumption) (by assumption) (by assumption) (by assumption) (by assumption) ⟨rfl, rfl⟩
end
section
noncomputable abbrev lamParams (pa : Pos) : Arguments := { posonlyargs := [], args := [{ arg := Str.ofString "row", annotation := none, pos := pa }], vararg := none, kwonlyargs := [], kw_defaults := [], kwarg := none, defaults := [] }
noncomputable abbrev lamBody (p1 p2 p3 : Pos) : Expr := .Subscript (.Name (Str.ofString "row") p1) (.Constant (.int 0) 0 p2) p3
noncomputable def lamScope : Scope := { kind := .function, names := [(Str.ofString "row", .local)], isGenerator := false, isCoroutine := false }
noncomputable def LamAt (f : Addr) (h : Heap) : Prop := ∃ name qual pm c' ctv pa p1 p2 p3, h.get? f = some (kla_obj name qual (lamParams pa) (lamBody p1 p2 p3) lamScope [] pm c' ctv) ∧ h.CodeRec (.ref c') qual
noncomputable def RowAt (a : Addr) (n : Nat) (h : Heap) : Prop := ∃ t1 t2 : Tok, IsTup h a #[.int (bl (n / 256) : Nat) t1, .int (n : Nat) t2]
noncomputable def LamPk (f : Addr) (rws : List (Addr × Nat)) (h : Heap) : Prop := LamAt f h ∧ ∀ p ∈ rws, RowAt p.1 p.2 h
theorem LamAt.keeps {f : Addr} {g h : Heap} (k : Kept g h) (x : LamAt f g) : LamAt f h := by
  obtain ⟨name, qual, pm, c', ctv, pa, p1, p2, p3, e, cr⟩ := x
  exact ⟨name, qual, pm, c', ctv, pa, p1, p2, p3, k _ _ e, cr.keeps k⟩
theorem RowAt.keeps {a : Addr} {n : Nat} {g h : Heap} (k : Kept g h) (x : RowAt a n g) : RowAt a n h := by
  obtain ⟨t1, t2, e⟩ := x
  exact ⟨t1, t2, e.keeps k⟩
theorem LamPk.keeps {f : Addr} {rws : List (Addr × Nat)} (g h : Heap) (k : Kept g h) (x : LamPk f rws g) : LamPk f rws h :=
  ⟨x.1.keeps k, fun p hp => (x.2 p hp).keeps k⟩
theorem LamAt.fn {f : Addr} {h : Heap} (x : LamAt f h) : FnAt f h := by
  obtain ⟨name, qual, pm, c', ctv, pa, p1, p2, p3, e, cr⟩ := x
  exact ⟨_, _, _, _, e⟩
section
variable {prog : Program} {w : World} {A A₀ : Around} {s : Shared} {K : Frag} {L : Addr} {h₀ base : Heap} {m mg mb : Str → Option Value} {need : List (Addr × Obj)} {p : Program} {loose : List Str} {mean : ExcName → Option Value}
  {env : Env} {outer : List Env} {Q E : Value → Shared → Prop} {name qual : Str} {params : Arguments} {body : Expr} {scope : Scope} {pm ctv : Value} {c' f : Addr} {args : Args} {binds : List (Str × Value)}
theorem enterLam (B : Below A₀ base outer h₀) (F : Fr h₀ L s.heap m) (X₀ : K.In h₀) (N : News h₀ L s.heap need) (T : Top p loose mean mg mb h₀) (hA : A.frames = some (env :: outer)) (hf : env.frame = some L) (hke : env.scope.kind = .function)
    (ho : s.heap.get? f = some (kla_obj name qual params body scope [] pm c' ctv)) (hcd : s.heap.CodeRec (.ref c') qual) (hroom : A.depth < recursionLimit)
    (hbind : bindArgs (kla_fn name qual params body scope [] pm (.ref c') ctv) args = pure binds) (hloc : ∀ y ∈ binds, scope.names.lookup y.1 = some .local)
    (h : ∀ g L' h₁, g = sans s.heap need → Fr g L' h₁ (fun y => binds.reverse.lookup y) → News g L' h₁ need → Below A base (env :: outer) g → K.In g → Top p loose mean mg mb g →
      wpAny (model prog w) (A.deeper (envX qual scope L' f (.ref c') [])) (eval body (envX qual scope L' f (.ref c') []))
        (fun v s' => LeaveM g (Owed h₀ g L m Q) v s')
        (fun e s' => wpAny (model prog w) (A.deeper (envX qual scope L' f (.ref c') [])) («leaving» (envX qual scope L' f (.ref c') []) e) (fun _ s'' => E e s'') (fun e' s'' => E e' s'') s')
        { s with heap := h₁, toks := s.toks + binds.length })
    (hco : scope.isCoroutine = false) (hgen : scope.isGenerator = false) (hk : scope.kind = .function)
    (hcell : ∀ x ∈ scope.names, x.2 ≠ .cell) : wpAny (model prog w) A (call (.ref f) args.pos args.kw) Q E s := by
  obtain ⟨_, BG, st, _⟩ := groundX (R := fun _ _ => True) B F N hA hf hke
  refine wpAny_call (kla_callFunE hroom ho rfl hco hgen rfl hcd ?_)
  rw [hbind]
  refine wpAny_pure (wpAny_newFunctionEnv hcell hloc (fun h₁ ns sb => ?_) hk)
  have keep : ∀ b o, s.heap.get? b = some o → h₁.get? b = some o := fun b o e => sb.extBut b o (Nat.ne_of_lt (Heap.lt_size e)) (Heap.get?_push_of_some _ e)
  exact ⟨((T.nolimit).keeps F.keep).keeps keep, kla_codeExpr (wpAny_mono (h _ _ h₁ rfl (sans_fr ns keep) (sans_news N keep) BG (X₀.keeps st) (T.keeps st)) (fun v s' hl => owed_end B F N hA hf hke hl) fun _ _ y => y)⟩
end
theorem key_spec (w : World) (f : Addr) (rws : List (Addr × Nat)) (q : Addr × Nat) (hq : q ∈ rws) :
    Spec 4 w f [.ref q.1] (LamPk f rws) [] (fun r _ => ∃ t, r = .int (bl (q.2 / 256) : Nat) t) := by
  unfold Spec SpecK
  k_fill
  intro p loose mean mg mb dp un gd cn cs a ccd cl outer A₀ base h₀ L m s Q E B F X N hP T hk9 hdp hun hret
  w_on
  k_with_none
  obtain ⟨⟨name, qual, pm, c', ctv, pa, p1, p2, p3, e, cr⟩, hr⟩ := hP
  obtain ⟨t1, t2, ht⟩ := hr q hq
  have e' : s.heap.get? f = _ := sans_of e
  k_with "subscriptTail Name Constant ref int" => (k_dflt (refine' item_tupleT (j := 0) (l := [_, _]) (IsTup.keeps ht (fun b o e => Fr.keep (by assumption) b o (by rw [hg]; exact e))) ?a ?b ?c ?d ?_; (case a => decide); (case b => decide); (case c => rfl); (case d => rfl); k_whole))
  k_with "LeaveM" => ((k_dflt (refine' leaveM_ ?zq3k1 ?zq3k2 ?_; (case zq3k1 => k_asm); (case zq3k2 => k_asm); k_whole); intro kF kN kK kO))
  k_with "execs cons" => (k_fold)
  k_with "storeName" => (dsimp only)
  k_with "newList" => (dsimp only)
  k_with "newTuple" => (dsimp only)
  k_with "truthy bool" => (dsimp only)
  k_with "spliced" => (dsimp only)
  k_with "callWith ref" => (dsimp only)
  k_with "compareOp" => (dsimp only)
  k_with "call ref" => (dsimp only)
  k_with "mine units" => (k_dflt (first | exact unit0 (by assumption) | exact unit1 (by assumption) (by exact rfl) | exact unit2 (by assumption) (by exact rfl) | exact unit3 (by assumption) (by exact rfl) | decide))
  k_with "mine and" => ((first | with_reducible assumption | (apply And.right; first | with_reducible assumption | (apply And.right; first | with_reducible assumption | (apply And.right; first | with_reducible assumption | (apply And.right; first | with_reducible assumption | (apply And.right; first | with_reducible assumption | (apply And.right; first | with_reducible assumption | (apply And.right; first | with_reducible assumption | (apply And.right; with_reducible assumption))))))))))
  k_with "mine in" => (first | (apply And.left; walk_at "mine and") | walk_at "mine and")
  k_with "mine ne" => ((try dsimp only); first | (apply Nat.ne_of_lt; walk_at "mine in") | (apply Nat.ne_of_gt; walk_at "mine in") | walk_at "mine in" | (apply Ne.symm; walk_at "mine in"))
  k_dflt (refine' enterLam (args := ⟨_, _⟩) ?B ?F ?X ?N ?T ?kA ?kF ?kK e' (cr.keeps fun b o e => sans_of e) ?k8 ?k9 ?kB ?_ ?c2 ?c3 ?c4 ?c5; (case kA => exact rfl); (case kF => exact rfl); (case kK => assumption); (case B => k_asm); (case F => k_asm); (case X => k_asm); (case N => k_asm); (case T => k_asm); (case k8 => k_room); (case k9 => exact rfl); (case c5 => decide); (case kB => exact locs rfl); (case c2 => exact rfl); (case c3 => exact rfl); (case c4 => exact rfl); k_whole; intro g' L' h' hg F' N' B' X' T'; (try dsimp only); (try k_fold))
  unfold lamBody
  k_steps
  exact spec_ret hret (by assumption) (by assumption) (by assumption) (by assumption) (by assumption) ⟨_, rfl⟩
end
section
noncomputable def lamQual : Str := (envOf (Str.ofString "_law_laid") lamScope 0 0 .none).qual ++ "<lambda>"
noncomputable def layL (ks : List Nat) (x : Nat) : Nat := ks.countP (fun k => decide (k < x))
noncomputable def layR (ks : List Nat) (x : Nat) : Nat := ks.countP (fun k => decide (k ≤ x))
noncomputable def keysOf (rows : List Nat) : List Nat := rows.map fun r => bl (r / 256)
noncomputable def lay : Nat → List Nat → Nat → Nat × Bool
  | 0, _, n => (n, false)
  | k + 1, rows, n => if n / 256 = 0 then (n, false) else
      if layL (keysOf rows) (bl (n / 256)) = layR (keysOf rows) (bl (n / 256)) then (n, true)
      else lay k rows (n ^^^ rows.getD (layL (keysOf rows) (bl (n / 256))) 0)
theorem count_prefix (p : Nat → Bool) (hp : ∀ a b, a ≤ b → p b = true → p a = true) : ∀ (ks : List Nat), ks.Pairwise (· ≤ ·) → ∀ i (h : i < ks.length), i < ks.countP p ↔ p ks[i] = true
  | [], _, i, h => nomatch h
  | k :: ks, hs, i, h => by
    have ih := count_prefix p hp ks (List.pairwise_cons.mp hs).2
    by_cases hk : p k = true
    · rw [List.countP_cons_of_pos hk]
      cases i with
      | zero => simp [hk]
      | succ i => simp only [List.getElem_cons_succ]; rw [← ih i (by simpa using h)]; omega
    · have z : ks.countP p = 0 := by
        rw [List.countP_eq_zero]
        intro a ha hpa
        exact hk (hp _ _ ((List.pairwise_cons.mp hs).1 a ha) hpa)
      rw [List.countP_cons_of_neg hk, z]
      constructor
      · intro h; omega
      · intro hpi
        cases i with
        | zero => exact absurd hpi hk
        | succ i => exact absurd (hp _ _ ((List.pairwise_cons.mp hs).1 _ (List.getElem_mem _)) hpi) hk
theorem layL_at {ks : List Nat} (hs : ks.Pairwise (· ≤ ·)) (x : Nat) (i : Nat) (h : i < ks.length) : i < layL ks x ↔ ks.getD i 0 < x := by
  rw [layL, count_prefix _ (fun a b hab hb => by simp at hb ⊢; omega) ks hs i h]
  simp [List.getElem?_eq_getElem h]
theorem layR_at {ks : List Nat} (hs : ks.Pairwise (· ≤ ·)) (x : Nat) (i : Nat) (h : i < ks.length) : i < layR ks x ↔ ks.getD i 0 ≤ x := by
  rw [layR, count_prefix _ (fun a b hab hb => by simp at hb ⊢; omega) ks hs i h]
  simp [List.getElem?_eq_getElem h]
theorem layL_le (ks : List Nat) (x : Nat) : layL ks x ≤ ks.length := List.countP_le_length
theorem layR_le (ks : List Nat) (x : Nat) : layR ks x ≤ ks.length := List.countP_le_length
theorem layLR (ks : List Nat) (x : Nat) : layL ks x ≤ layR ks x := List.countP_mono_left fun a _ h => by simp at h ⊢; omega
theorem lay_key {ks : List Nat} (hs : ks.Pairwise (· ≤ ·)) {x : Nat} (h : layL ks x ≠ layR ks x) : layL ks x < ks.length ∧ ks.getD (layL ks x) 0 = x := by
  have h1 := layLR ks x
  have h2 := layR_le ks x
  have h3 : layL ks x < ks.length := by omega
  have h4 := (layR_at hs x _ h3).mp (by omega)
  have h5 := layL_at hs x _ h3
  exact ⟨h3, by omega⟩
theorem bl_pow {n j : Nat} (h1 : 2 ^ j ≤ n) (h2 : n < 2 ^ (j + 1)) : bl n = j + 1 := by
  have h0 : n ≠ 0 := by have := Nat.two_pow_pos j; omega
  unfold bl; rw [if_neg h0]
  have := (Nat.log2_eq_iff h0).mpr ⟨h1, h2⟩
  omega
theorem xor_less {a b : Nat} (ha : a ≠ 0) (h : bl b = bl a) : a ^^^ b < 2 ^ Nat.log2 a := by
  have h0 : b ≠ 0 := by intro hb; subst hb; unfold bl at h; rw [if_neg ha, if_pos rfl] at h; omega
  have e : Nat.log2 b = Nat.log2 a := by unfold bl at h; rw [if_neg ha, if_neg h0] at h; omega
  have b1 := Nat.log2_self_le h0
  have b2 := @Nat.lt_log2_self b
  rw [e] at b1 b2
  have t := top_xor (x := a) (y := b) (j := Nat.log2 a) Nat.lt_log2_self b1 b2
  have a1 := Nat.log2_self_le ha
  by_cases hx : a ^^^ b < a
  · rw [if_pos hx] at t; exact t
  · rw [if_neg hx] at t; omega
theorem div256_xor (a b : Nat) : (a ^^^ b) / 256 = a / 256 ^^^ b / 256 := by
  rw [← Nat.shiftRight_eq_div_pow _ 8, ← Nat.shiftRight_eq_div_pow _ 8, ← Nat.shiftRight_eq_div_pow _ 8, Nat.shiftRight_xor_distrib]
theorem bl_lt_of {a b : Nat} (hb : b ≠ 0) (h : a < 2 ^ Nat.log2 b) : bl a < bl b := by
  have := bl_le h
  have : bl b = Nat.log2 b + 1 := by unfold bl; rw [if_neg hb]
  omega
theorem lay_less {m r : Nat} (hm : m / 256 ≠ 0) (h : bl (r / 256) = bl (m / 256)) : bl ((m ^^^ r) / 256) < bl (m / 256) ∧ (m ^^^ r) / 256 < m / 256 := by
  rw [div256_xor]
  have x := xor_less hm h
  exact ⟨bl_lt_of hm x, Nat.lt_of_lt_of_le x (Nat.log2_self_le hm)⟩
end
section
noncomputable def TabOk (ps : Array Value) (h : Heap) : Prop := ps = #[] ∨ ∃ c', ps = #[rawInt 138, rawInt 12, .ref c'] ∧ h.CodeRec (.ref c') lamQual
noncomputable def TabNow (ps ps' : Array Value) (nx : List (Addr × Obj)) : Prop := (ps ≠ #[] ∧ ps' = ps) ∨ ∃ c' oc vs t, ps' = #[rawInt 138, rawInt 12, .ref c'] ∧ (c', oc) ∈ nx ∧ oc.data = .fields vs ∧ vs[1]? = some (.str lamQual t)
noncomputable abbrev refsOf (rws : List (Addr × Nat)) : List Value := rws.map fun p => Value.ref p.1
theorem keysOf_get (rws : List (Addr × Nat)) (i : Nat) (h : i < rws.length) : (keysOf (rws.map (·.2))).getD i 0 = bl (rws[i].2 / 256) := by
  simp [keysOf, List.getElem?_eq_getElem h]
theorem keys_spec (w : World) (f : Addr) (rws : List (Addr × Nat)) (big : List (Addr × Nat)) (hb : ∀ p ∈ rws, p ∈ big) :
    ∀ i v, (refsOf rws)[i]? = some v → Spec 4 w f [v] (LamPk f big) [] (fun r _ => ∃ t, r = .int ((keysOf (rws.map (·.2))).getD i 0 : Nat) t) := by
  intro i v h
  obtain ⟨hi, e⟩ := List.getElem?_eq_some_iff.mp h
  have hi' : i < rws.length := by simpa using hi
  subst e
  rw [keysOf_get rws i hi']
  simp only [refsOf, List.getElem_map]
  exact key_spec w f big _ (hb _ (List.getElem_mem _))
theorem lamA {pa p1 p2 p3 : Pos} {g h : Heap} {L f c' : Addr} {news : List (Addr × Obj)} {name qual : Str} {pm ctv : Value} {oc : Obj} {vs : Array Value} {t : Tok} (N : News g L h news) (hm : (f, kla_obj name qual (lamParams pa) (lamBody p1 p2 p3) lamScope [] pm c' ctv) ∈ news) (hc : (c', oc) ∈ news) (d1 : oc.data = .fields vs) (d2 : vs[1]? = some (.str qual t)) : LamAt f h :=
  ⟨name, qual, pm, c', ctv, pa, p1, p2, p3, (N _ hm).1, codeRec_news N hc d1 d2⟩
theorem lamB {pa p1 p2 p3 : Pos} {g h : Heap} {L f c' : Addr} {m : Str → Option Value} {news : List (Addr × Obj)} {name qual : Str} {pm ctv : Value} (F : Fr g L h m) (N : News g L h news) (hm : (f, kla_obj name qual (lamParams pa) (lamBody p1 p2 p3) lamScope [] pm c' ctv) ∈ news) (hc : g.CodeRec (.ref c') qual) : LamAt f h :=
  ⟨name, qual, pm, c', ctv, pa, p1, p2, p3, (N _ hm).1, hc.keeps F.keep⟩
theorem lamPk_of {f : Addr} {g h : Heap} {L : Addr} {m : Str → Option Value} {rws : List (Addr × Nat)} (F : Fr g L h m) (x : LamAt f h) (hr : ∀ p ∈ rws, RowAt p.1 p.2 g) : LamPk f rws h := ⟨x, fun p hp => (hr p hp).keeps F.keep⟩
noncomputable def LaidEnd (lr : Addr) (rws : List (Addr × Nat)) (n : Nat) (num : Nat) (ps : Array Value) (r : Value) (nx : List (Addr × Obj)) : Prop :=
  ∃ ps' nx', TabNow ps ps' nx' ∧ (∀ q ∈ nx', q.1 ≠ lr ∧ q.1 ≠ 160) ∧
    (((lay 9 (rws.map (·.2)) num).2 = false ∧ (∃ t, r = .int ((lay 9 (rws.map (·.2)) num).1 : Nat) t) ∧ nx = (lr, listOf (refsOf rws).toArray n) :: (160, tabObj ps') :: nx') ∨
     ((lay 9 (rws.map (·.2)) num).2 = true ∧ r = .none ∧ ∃ a t1 t2, (a, ({ cls := .type "tuple", data := .seq #[.int (bl ((lay 9 (rws.map (·.2)) num).1 / 256) : Nat) t1, .int ((lay 9 (rws.map (·.2)) num).1 : Nat) t2] } : Obj)) ∈ nx' ∧
       nx = (lr, listOf (refsOf (rws.take (layR (keysOf (rws.map (·.2))) (bl ((lay 9 (rws.map (·.2)) num).1 / 256))) ++ (a, (lay 9 (rws.map (·.2)) num).1) :: rws.drop (layR (keysOf (rws.map (·.2))) (bl ((lay 9 (rws.map (·.2)) num).1 / 256))))).toArray (n + 1)) :: (160, tabObj ps') :: nx'))
noncomputable def LaidInv (rows : List Nat) (num : Nat) (x : Int) : Prop := ∃ m k : Nat, x = (m : Int) ∧ m < 65536 ∧ bl (m / 256) < k ∧ lay k rows m = lay 9 rows num
theorem laid_start {rows : List Nat} {num : Nat} (h : num < 65536) : LaidInv rows num (num : Int) := by
  refine ⟨num, 9, rfl, h, ?_, rfl⟩
  have : num / 256 < 2 ^ 8 := by omega
  have := bl_le this
  omega
theorem size_specI (w : World) (x : Int) (n : Nat) (t : Tok) (hx : x = (n : Int)) (h : n < 2 ^ 40) : Spec 4 w 136 [.int x t] (fun _ => True) [] (fun r nx => nx = [] ∧ ∃ t, r = .int (bl n : Nat) t) := by
  subst hx; exact size_spec w n t h
theorem laid_go {m bel : Nat} (hb : bel ≤ 255) (h : (decide ((256 : Int) ≤ Int.fdiv (m : Int) 256 * 256 + (bel : Int)) == true) = true) : m / 256 ≠ 0 := by
  have e : Int.fdiv (m : Int) 256 = ((m / 256 : Nat) : Int) := fdiv_cast m 256
  rw [e] at h
  simp at h
  omega
theorem laid_halt {m bel : Nat} (h : (decide ((256 : Int) ≤ Int.fdiv (m : Int) 256 * 256 + (bel : Int)) == true) = false) : m / 256 = 0 := by
  have e : Int.fdiv (m : Int) 256 = ((m / 256 : Nat) : Int) := fdiv_cast m 256
  rw [e] at h
  simp at h
  omega
theorem lay_ne {a b : Nat} (h : ¬ (a : Int) = (b : Int)) : a ≠ b := by omega
theorem lay_eq {a b : Nat} (h : (a : Int) = (b : Int)) : a = b := by omega
theorem ne1 {a b : Nat} {o : Obj} (h : b < a) : ∀ p ∈ [((b : Addr), o)], a ≠ p.1 := fun p hp => by
  rw [List.mem_singleton] at hp; subst hp; exact Nat.ne_of_gt h
theorem kept_sans {g h : Heap} {L : Addr} {m : Str → Option Value} {news need : List (Addr × Obj)} (F : Fr g L h m) (N : News g L h news) (hn : ∀ p ∈ need, p ∈ news) : Kept g (sans h need) := fun b o e =>
  sans_get (F.keep b o e) fun p hp q => by
    have := (N p (hn p hp)).2.2
    rw [← q, e] at this; cases this
theorem row_sans {g h : Heap} {L a : Addr} {news need : List (Addr × Obj)} {x y : Int} {t1 t2 : Tok} {n : Nat} (N : News g L h news) (hm : (a, ({ cls := .type "tuple", data := .seq #[.int x t1, .int y t2] } : Obj)) ∈ news) (hx : x = (bl (n / 256) : Nat)) (hy : y = (n : Nat)) (hn : ∀ p ∈ need, a ≠ p.1) : RowAt a n (sans h need) := by
  subst hx; subst hy
  exact ⟨t1, t2, _, sans_get (N _ hm).1 hn, rfl, _, rfl⟩
theorem lam_sansA {pa p1 p2 p3 : Pos} {g h : Heap} {L f c' : Addr} {news need : List (Addr × Obj)} {name qual : Str} {pm ctv : Value} {oc : Obj} {vs : Array Value} {t : Tok} (N : News g L h news) (hm : (f, kla_obj name qual (lamParams pa) (lamBody p1 p2 p3) lamScope [] pm c' ctv) ∈ news) (hc : (c', oc) ∈ news) (d1 : oc.data = .fields vs) (d2 : vs[1]? = some (.str qual t)) (n1 : ∀ p ∈ need, f ≠ p.1) (n2 : ∀ p ∈ need, c' ≠ p.1) : LamAt f (sans h need) :=
  ⟨name, qual, pm, c', ctv, pa, p1, p2, p3, sans_get (N _ hm).1 n1, c', oc, vs, t, rfl, sans_get (N _ hc).1 n2, d1, d2⟩
theorem lam_sansB {pa p1 p2 p3 : Pos} {g h : Heap} {L f c' : Addr} {m : Str → Option Value} {news need : List (Addr × Obj)} {name qual : Str} {pm ctv : Value} (F : Fr g L h m) (N : News g L h news) (hm : (f, kla_obj name qual (lamParams pa) (lamBody p1 p2 p3) lamScope [] pm c' ctv) ∈ news) (hc : g.CodeRec (.ref c') qual) (hn : ∀ p ∈ need, p ∈ news) (n1 : ∀ p ∈ need, f ≠ p.1) : LamAt f (sans h need) :=
  ⟨name, qual, pm, c', ctv, pa, p1, p2, p3, sans_get (N _ hm).1 n1, hc.keeps (kept_sans F N hn)⟩
theorem lamPk_sans {f a : Addr} {n : Nat} {g h : Heap} {L : Addr} {m : Str → Option Value} {news need : List (Addr × Obj)} {rws : List (Addr × Nat)} (F : Fr g L h m) (N : News g L h news) (hn : ∀ p ∈ need, p ∈ news) (x : LamAt f (sans h need)) (hr : ∀ p ∈ rws, RowAt p.1 p.2 g) (ha : RowAt a n (sans h need)) : FnAt f (sans h need) ∧ LamPk f ((a, n) :: rws) (sans h need) :=
  ⟨x.fn, x, fun p hp => by
    rcases List.mem_cons.mp hp with rfl | hp
    · exact ha
    · exact (hr p hp).keeps (kept_sans F N hn)⟩
theorem in1 {x : Addr × Obj} {l : List (Addr × Obj)} (h : x ∈ l) : ∀ p ∈ [x], p ∈ l := fun p hp => by
  rw [List.mem_singleton] at hp; subst hp; exact h
theorem split4 {a b c x d : Nat} {oa ob oc ox od : Obj} (h1 : x < a) (h2 : x < b) (h3 : x < c) (h4 : d ≠ x) : ∀ p ∈ ([(a, oa), (b, ob), (c, oc), (d, od)] : List (Addr × Obj)), p ∈ [(a, oa), (b, ob), (c, oc), (x, ox), (d, od)] ∧ ∀ q ∈ [(x, ox)], p.1 ≠ q.1 := by
  intro p hp
  simp only [List.mem_cons, List.not_mem_nil, or_false] at hp ⊢
  refine ⟨by rcases hp with rfl | rfl | rfl | rfl <;> simp, ?_⟩
  intro q hq; subst hq
  rcases hp with rfl | rfl | rfl | rfl <;> first | assumption | exact Nat.ne_of_gt (by assumption)
theorem split3 {a b x d : Nat} {oa ob ox od : Obj} (h1 : x < a) (h2 : x < b) (h4 : d ≠ x) : ∀ p ∈ ([(a, oa), (b, ob), (d, od)] : List (Addr × Obj)), p ∈ [(a, oa), (b, ob), (x, ox), (d, od)] ∧ ∀ q ∈ [(x, ox)], p.1 ≠ q.1 := by
  intro p hp
  simp only [List.mem_cons, List.not_mem_nil, or_false] at hp ⊢
  refine ⟨by rcases hp with rfl | rfl | rfl <;> simp, ?_⟩
  intro q hq; subst hq
  rcases hp with rfl | rfl | rfl <;> first | assumption | exact Nat.ne_of_gt (by assumption)
theorem spec_use4 {bud : Nat} {w : World} {f : Addr} {vs : List Value} {kw : List (Str × Value)} {P : Heap → Prop} {a b c x d : Nat} {oa ob oc ox od ox' : Obj}
    {p : Program} {loose : List Str} {mean : ExcName → Option Value} {mg mb : Str → Option Value} {dp un : Nat} {gd : Option (List Code)} {cn : Str} {cs : Scope} {ac : Addr} {ccd : Value} {cl : List (Str × Addr)} {outer : List Env} {A₀ : Around} {base h₀ : Heap} {L : Addr} {m : Str → Option Value} {s : Shared} {Q E : Value → Shared → Prop}
    (S : SpecK bud w f vs kw P [(x, ox)] (fun r nx => r = .none ∧ nx = [(x, ox')])) (B : Below A₀ base outer h₀) (F : Fr h₀ L s.heap m) (X : (hd.heap_39 w.params).In h₀) (N : News h₀ L s.heap [(a, oa), (b, ob), (c, oc), (x, ox), (d, od)]) (T : Top p loose mean mg mb h₀) (hk : cs.kind = .function) (hdp : dp + bud < recursionLimit) (hun : un + 16 * bud < cLine)
    (h1 : x < a) (h2 : x < b) (h3 : x < c) (h4 : d ≠ x) (hp : P (sans s.heap [(x, ox)]))
    (h : ∀ (h' : Heap) (tk' : Nat), Fr h₀ L h' m → News h₀ L h' ((x, ox') :: [(a, oa), (b, ob), (c, oc), (d, od)]) → Q .none { s with heap := h', toks := tk' }) :
    wpAny (model PySem.Challenge.rw_ux0013_01.row.prog w) (ktrTop dp un gd cn cs L ac ccd cl outer) (call (.ref f) vs kw) Q E s :=
  spec_use _ [(a, oa), (b, ob), (c, oc), (d, od)] S B F X N T hk hdp hun (in1 (by simp)) (split4 h1 h2 h3 h4) hp fun r nx h' tk' F' N' _ _ hR => by obtain ⟨rfl, rfl⟩ := hR; exact h h' tk' F' N'
theorem spec_use3 {bud : Nat} {w : World} {f : Addr} {vs : List Value} {kw : List (Str × Value)} {P : Heap → Prop} {a b x d : Nat} {oa ob ox od ox' : Obj}
    {p : Program} {loose : List Str} {mean : ExcName → Option Value} {mg mb : Str → Option Value} {dp un : Nat} {gd : Option (List Code)} {cn : Str} {cs : Scope} {ac : Addr} {ccd : Value} {cl : List (Str × Addr)} {outer : List Env} {A₀ : Around} {base h₀ : Heap} {L : Addr} {m : Str → Option Value} {s : Shared} {Q E : Value → Shared → Prop}
    (S : SpecK bud w f vs kw P [(x, ox)] (fun r nx => r = .none ∧ nx = [(x, ox')])) (B : Below A₀ base outer h₀) (F : Fr h₀ L s.heap m) (X : (hd.heap_39 w.params).In h₀) (N : News h₀ L s.heap [(a, oa), (b, ob), (x, ox), (d, od)]) (T : Top p loose mean mg mb h₀) (hk : cs.kind = .function) (hdp : dp + bud < recursionLimit) (hun : un + 16 * bud < cLine)
    (h1 : x < a) (h2 : x < b) (h4 : d ≠ x) (hp : P (sans s.heap [(x, ox)]))
    (h : ∀ (h' : Heap) (tk' : Nat), Fr h₀ L h' m → News h₀ L h' ((x, ox') :: [(a, oa), (b, ob), (d, od)]) → Q .none { s with heap := h', toks := tk' }) :
    wpAny (model PySem.Challenge.rw_ux0013_01.row.prog w) (ktrTop dp un gd cn cs L ac ccd cl outer) (call (.ref f) vs kw) Q E s :=
  spec_use _ [(a, oa), (b, ob), (d, od)] S B F X N T hk hdp hun (in1 (by simp)) (split3 h1 h2 h4) hp fun r nx h' tk' F' N' _ _ hR => by obtain ⟨rfl, rfl⟩ := hR; exact h h' tk' F' N'
theorem layL_len (rws : List (Addr × Nat)) (x : Nat) : layL (keysOf (rws.map (·.2))) x ≤ rws.length := by simpa [keysOf] using layL_le (keysOf (rws.map (·.2))) x
theorem layR_len (rws : List (Addr × Nat)) (x : Nat) : layR (keysOf (rws.map (·.2))) x ≤ (refsOf rws).length := by simpa [keysOf] using layR_le (keysOf (rws.map (·.2))) x
theorem lay_hcL {rws : List (Addr × Nat)} (hs : (keysOf (rws.map (·.2))).Pairwise (· ≤ ·)) (x : Nat) : ∀ i, i < (refsOf rws).length → (i < layL (keysOf (rws.map (·.2))) x ↔ (keysOf (rws.map (·.2))).getD i 0 < x) := fun i hi => layL_at hs _ i (by simpa [keysOf] using hi)
theorem lay_hcR {rws : List (Addr × Nat)} (hs : (keysOf (rws.map (·.2))).Pairwise (· ≤ ·)) (x : Nat) : ∀ i, i < (refsOf rws).length → (i < layR (keysOf (rws.map (·.2))) x ↔ (keysOf (rws.map (·.2))).getD i 0 ≤ x) := fun i hi => layR_at hs _ i (by simpa [keysOf] using hi)
theorem lay_hl {rws : List (Addr × Nat)} (h : rws.length < 100) : (refsOf rws).length < 1000 := by simp; omega
theorem lay_hcl (rws : List (Addr × Nat)) (x : Nat) : layL (keysOf (rws.map (·.2))) x ≤ (refsOf rws).length := by simpa [keysOf] using layL_le (keysOf (rws.map (·.2))) x
theorem news_sub {g h : Heap} {L : Addr} {n1 n2 : List (Addr × Obj)} (N : News g L h n1) (hs : ∀ p ∈ n2, p ∈ n1) : News g L h n2 := fun p hp => N p (hs p hp)
theorem off_sub {g : Heap} {n1 n2 : List (Addr × Obj)} (O : Off g n1) (h : ∀ p ∈ n2, p ∈ n1) : Off g n2 := fun p hp => O p (h p hp)
theorem perm5 {y a b c z : Addr × Obj} : ∀ p ∈ [y, z, a, b, c], p ∈ [y, a, b, c, z] := by
  intro p hp; simp only [List.mem_cons, List.not_mem_nil, or_false] at hp ⊢; rcases hp with h | h | h | h | h <;> simp [h]
theorem perm4 {y a b z : Addr × Obj} : ∀ p ∈ [y, z, a, b], p ∈ [y, a, b, z] := by
  intro p hp; simp only [List.mem_cons, List.not_mem_nil, or_false] at hp ⊢; rcases hp with h | h | h | h <;> simp [h]
theorem perm4' {y a b z : Addr × Obj} : ∀ p ∈ [y, z, a, b], p ∈ [a, b, y, z] := by
  intro p hp; simp only [List.mem_cons, List.not_mem_nil, or_false] at hp ⊢; rcases hp with h | h | h | h <;> simp [h]
theorem perm3' {y a z : Addr × Obj} : ∀ p ∈ [y, z, a], p ∈ [a, y, z] := by
  intro p hp; simp only [List.mem_cons, List.not_mem_nil, or_false] at hp ⊢; rcases hp with h | h | h <;> simp [h]
theorem laidEnd_put {lr : Nat} {rws : List (Addr × Nat)} {n num m : Nat} {ps ps' : Array Value} {a : Nat} {x y : Int} {t1 t2 : Tok} {nx' : List (Addr × Obj)} (e : lay 9 (rws.map (·.2)) num = (m, true)) (ht : TabNow ps ps' ((a, ({ cls := .type "tuple", data := .seq #[.int x t1, .int y t2] } : Obj)) :: nx')) (hx : x = (bl (m / 256) : Nat)) (hy : y = (m : Nat))
    (l1 : lr < a) (l2 : 160 < a) (hd : ∀ q ∈ nx', q.1 ≠ lr ∧ q.1 ≠ 160) :
    LaidEnd lr rws n num ps .none ((lr, listOf ((refsOf rws).take (layR (keysOf (rws.map (·.2))) (bl (m / 256))) ++ .ref a :: (refsOf rws).drop (layR (keysOf (rws.map (·.2))) (bl (m / 256)))).toArray (n + 1)) :: (160, tabObj ps') :: (a, ({ cls := .type "tuple", data := .seq #[.int x t1, .int y t2] } : Obj)) :: nx') := by
  subst hx; subst hy
  refine ⟨ps', _, ht, ?_, Or.inr ⟨by rw [e], rfl, a, t1, t2, by rw [e]; exact .head _, ?_⟩⟩
  · intro q hq
    rcases List.mem_cons.mp hq with rfl | hq
    · exact ⟨Nat.ne_of_gt l1, Nat.ne_of_gt l2⟩
    · exact hd q hq
  · rw [e]; simp [refsOf, List.map_take, List.map_drop]
theorem laidEnd_halt {lr : Addr} {rws : List (Addr × Nat)} {n num m : Nat} {ps ps' : Array Value} {t : Tok} {nx' : List (Addr × Obj)} (e : lay 9 (rws.map (·.2)) num = (m, false)) (ht : TabNow ps ps' nx') (hd : ∀ q ∈ nx', q.1 ≠ lr ∧ q.1 ≠ 160) :
    LaidEnd lr rws n num ps (.int (m : Nat) t) ((lr, listOf (refsOf rws).toArray n) :: (160, tabObj ps') :: nx') :=
  ⟨ps', nx', ht, hd, Or.inl ⟨by rw [e], ⟨t, by rw [e]⟩, rfl⟩⟩
theorem tabNow_new {c' : Addr} {oc : Obj} {vs : Array Value} {t : Tok} {nx : List (Addr × Obj)} (h : (c', oc) ∈ nx) (d1 : oc.data = .fields vs) (d2 : vs[1]? = some (.str lamQual t)) : TabNow #[] (#[] ++ #[rawInt 138, rawInt 12, .ref c']) nx := Or.inr ⟨c', oc, vs, t, rfl, h, d1, d2⟩
theorem off2 {a b c d : Nat} {o o' : Obj} (h1 : c < a) (h2 : d < a) (h3 : c < b) (h4 : d < b) : ∀ q ∈ ([(a, o), (b, o')] : List (Addr × Obj)), q.1 ≠ c ∧ q.1 ≠ d := by
  intro q hq
  simp only [List.mem_cons, List.not_mem_nil, or_false] at hq
  rcases hq with rfl | rfl
  · exact ⟨Nat.ne_of_gt h1, Nat.ne_of_gt h2⟩
  · exact ⟨Nat.ne_of_gt h3, Nat.ne_of_gt h4⟩
theorem off1 {a c d : Nat} {o : Obj} (h1 : c < a) (h2 : d < a) : ∀ q ∈ ([(a, o)] : List (Addr × Obj)), q.1 ≠ c ∧ q.1 ≠ d := by
  intro q hq
  simp only [List.mem_cons, List.not_mem_nil, or_false] at hq
  subst hq
  exact ⟨Nat.ne_of_gt h1, Nat.ne_of_gt h2⟩
theorem lay_row {rws : List (Addr × Nat)} {x : Nat} (hs : (keysOf (rws.map (·.2))).Pairwise (· ≤ ·)) (h : layL (keysOf (rws.map (·.2))) x ≠ layR (keysOf (rws.map (·.2))) x) :
    ∃ q ∈ rws, (refsOf rws)[layL (keysOf (rws.map (·.2))) x]? = some (.ref q.1) ∧ bl (q.2 / 256) = x ∧ (rws.map (·.2)).getD (layL (keysOf (rws.map (·.2))) x) 0 = q.2 := by
  obtain ⟨h1, h2⟩ := lay_key hs h
  have h1' : layL (keysOf (rws.map (·.2))) x < rws.length := by simpa [keysOf] using h1
  rw [keysOf_get rws _ h1'] at h2
  exact ⟨rws[layL (keysOf (rws.map (·.2))) x], List.getElem_mem _, by simp [List.getElem?_eq_getElem h1'], h2, by simp [List.getElem?_eq_getElem h1']⟩
theorem lay_step {rows : List Nat} {num m k r bel : Nat} (hb : bel ≤ 255) (hgo : (decide ((256 : Int) ≤ Int.fdiv (m : Int) 256 * 256 + (bel : Int)) == true) = true) (h1 : m < 65536) (h2 : bl (m / 256) < k) (h3 : lay k rows m = lay 9 rows num)
    (hne : layL (keysOf rows) (bl (m / 256)) ≠ layR (keysOf rows) (bl (m / 256))) (hk : bl (r / 256) = bl (m / 256)) (hr : rows.getD (layL (keysOf rows) (bl (m / 256))) 0 = r) (hlt : r < 65536) :
    LaidInv rows num (Builtin.bitXor (m : Int) (r : Int)) ∧ (Builtin.bitXor (m : Int) (r : Int)).toNat / 256 < (m : Int).toNat / 256 := by
  have hm := laid_go hb hgo
  obtain ⟨l1, l2⟩ := lay_less hm hk
  rw [xor_cast]
  refine ⟨⟨m ^^^ r, k - 1, rfl, Nat.xor_lt_two_pow (n := 16) h1 hlt, by omega, ?_⟩, by simpa using l2⟩
  obtain ⟨j, rfl⟩ : ∃ j, k = j + 1 := ⟨k - 1, by omega⟩
  rw [← h3, Nat.add_sub_cancel, lay, if_neg hm, if_neg hne, hr]
theorem lay_halts {rows : List Nat} {num m k : Nat} (h0 : m / 256 = 0) (h2 : bl (m / 256) < k) (h3 : lay k rows m = lay 9 rows num) : lay 9 rows num = (m, false) := by
  obtain ⟨j, rfl⟩ : ∃ j, k = j + 1 := ⟨k - 1, by omega⟩
  rw [← h3, lay, if_pos h0]
theorem lay_puts {rows : List Nat} {num m k : Nat} (h0 : m / 256 ≠ 0) (h2 : bl (m / 256) < k) (h3 : lay k rows m = lay 9 rows num) (he : layL (keysOf rows) (bl (m / 256)) = layR (keysOf rows) (bl (m / 256))) : lay 9 rows num = (m, true) := by
  obtain ⟨j, rfl⟩ : ∃ j, k = j + 1 := ⟨k - 1, by omega⟩
  rw [← h3, lay, if_neg h0, if_pos he]
end
section
theorem laid_specA (w : World) (lr : Addr) (rws : List (Addr × Nat)) (n : Nat) (num bel : Nat) (t1 t2 : Tok) (hlr : lr ≠ 160) (hs : (keysOf (rws.map (·.2))).Pairwise (· ≤ ·)) (hb : ∀ p ∈ rws, p.2 < 65536) (hlen : rws.length < 100) (hnum : num < 65536) (hbel : bel ≤ 255) :
    Spec 20 w 165 [.ref lr, .int num t1, .int bel t2] (fun h => CodeHd h 164 160 ∧ ∀ p ∈ rws, RowAt p.1 p.2 h) [(lr, listOf (refsOf rws).toArray n), (160, tabObj #[])] (LaidEnd lr rws n num #[]) := by
  unfold Spec SpecK
  k_fill
  intro p loose mean mg mb dp un gd cn cs a ccd cl outer A₀ base h₀ L m s Q E B F X N hP T hk9 hdp hun hret
  w_on
  k_with_none
  k_with "exec While Compare cons nil" => (k_dflt (k_while (fun _ x => LaidInv (rws.map (·.2)) num x) (fun _ x => x.toNat / 256) "number"); (rename LaidInv _ _ _ => hex); (obtain ⟨m9, k, rfl, h1, h2, h3⟩ := hex))
  k_with "state" => first | exact laid_start hnum | exact (lay_step hbel (by assumption) h1 h2 h3 (lay_ne (by assumption)) (by assumption) (by assumption) (by assumption)).1
  k_with "measure" => exact (lay_step hbel (by assumption) h1 h2 h3 (lay_ne (by assumption)) (by assumption) (by assumption) (by assumption)).2
  k_with "call ref" => (k_dflt (refine' spec_v1 (size_specI w _ (m9 / 256) _ (fdiv_cast m9 256) (by omega)) ?B ?F ?X ?N ?T ?hk ?hd ?hu trivial ?_; walk_at "mine ret"); (intro t9 h9 tk9 F9 N9))
  k_with "call ref" => (k_dflt (refine' spec_v0 (bisL_spec w _ lr (refsOf rws) (fun i => (keysOf (rws.map (·.2))).getD i 0) (bl (m9 / 256)) (layL (keysOf (rws.map (·.2))) (bl (m9 / 256))) _ (LamPk _ rws) LamPk.keeps (lay_hl hlen) (keys_spec w _ rws rws (fun _ h => h)) (lay_hcL hs _) (lay_hcl rws _)) ?B ?F ?X ?N ?T ?hk ?hd ?hu ?hp ?_; walk_at "mine ret"; (case hp => exact ⟨News.isList (by assumption) (by k_mem), (lamA (by assumption) (by k_mem) (by k_mem) (by assumption) (by assumption)).fn, lamPk_of (by assumption) (lamA (by assumption) (by k_mem) (by k_mem) (by assumption) (by assumption)) hrows⟩)); (intro t9 h9 tk9 F9 N9))
  k_with "call ref" => (k_dflt (refine' spec_v0 (bisR_spec w _ lr (refsOf rws) (fun i => (keysOf (rws.map (·.2))).getD i 0) (bl (m9 / 256)) (layR (keysOf (rws.map (·.2))) (bl (m9 / 256))) _ (LamPk _ rws) LamPk.keeps (lay_hl hlen) (keys_spec w _ rws rws (fun _ h => h)) (lay_hcR hs _) (layR_len rws _)) ?B ?F ?X ?N ?T ?hk ?hd ?hu ?hp ?_; walk_at "mine ret"; (case hp => exact ⟨News.isList (by assumption) (by k_mem), (lamA (by assumption) (by k_mem) (by k_mem) (by assumption) (by assumption)).fn, lamPk_of (by assumption) (lamA (by assumption) (by k_mem) (by k_mem) (by assumption) (by assumption)) hrows⟩)); (intro t9 h9 tk9 F9 N9))
  k_with "call ref" => (k_dflt (refine' spec_use4 (insR_spec w _ lr (refsOf rws) n _ (fun i => (keysOf (rws.map (·.2))).getD i 0) (bl (m9 / 256)) (layR (keysOf (rws.map (·.2))) (bl (m9 / 256))) (LamPk _ ((_, m9) :: rws)) LamPk.keeps (lay_hl hlen) (keys_spec w _ rws _ (fun _ h => .tail _ h)) (key_spec w _ _ (_, m9) (.head _)) (lay_hcR hs _) (layR_len rws _)) ?B ?F ?X ?N ?T ?hk ?hd ?hu ?q1 ?q2 ?q3 (Ne.symm hlr) ?hp ?_; walk_at "mine ret"; (case q1 => omega); (case q2 => omega); (case q3 => omega); (case hp => exact lamPk_sans (by assumption) (by assumption) (in1 (by k_mem)) (lam_sansA (by assumption) (by k_mem) (by k_mem) (by assumption) (by assumption) (ne1 (by omega)) (ne1 (by omega))) hrows (row_sans (by assumption) (by k_mem) rfl rfl (ne1 (by omega))))); (intro h9 tk9 F9 N9))
  k_with "subscriptTail Name Name ref int" => ((obtain ⟨q, hq, e1, e2, e3⟩ := lay_row hs (lay_ne (by assumption))); (have hq6 := hb q hq); (obtain ⟨u1, u2, ht⟩ := hrows q hq); k_dflt (refine' item_list ?a ?e ?b ?c ?_; (case a => exact News.isList (by assumption) (by k_mem)); (case e => exact rfl); (case b => (have := layL_len rws (bl (m9 / 256)); omega)); (case c => exact e1); k_whole))
  k_with "subscriptTail Subscript Constant ref int" => (k_dflt (refine' item_tupleT (j := 1) (l := [_, _]) (IsTup.keeps ht (fun b o e => Fr.keep (by assumption) b o e)) ?a ?b ?c ?d ?_; (case a => decide); (case b => decide); (case c => rfl); (case d => rfl); k_whole))
  k_with "mine enter" => (k_dflt (refine' enterM (args := ⟨_, _⟩) ?zq1B ?zq1F ?zq1X ?zq1N ?zq1T ?zq1kA ?zq1kF ?zq1kK ?zq1k6 ?zq1k7 ?zq1k8 ?zq1k9 ?zq1kB ?_ ?zq1c2 ?zq1c3 ?zq1c4 ?zq1c5; (case zq1kA => exact rfl); (case zq1kF => exact rfl); (case zq1kK => assumption); (case zq1B => k_asm); (case zq1F => k_asm); (case zq1X => k_asm); (case zq1N => k_asm); (case zq1T => k_asm); (case zq1k6 => k_is); (case zq1k7 => k_is); (case zq1k8 => walk_at "mine units"); (case zq1k9 => first | exact BindsTo.of_eq rfl | exact binds_K (by k_in) rfl (by k_is) rfl rfl rfl); (case zq1c5 => decide); (case zq1kB => exact locs rfl); (case zq1c2 => exact rfl); (case zq1c3 => exact rfl); (case zq1c4 => exact rfl); k_whole; intro g' L' h' hg' F' N' B' X' T'; (try dsimp only); (try k_fold)))
  k_with "LeaveM" => ((k_dflt (refine' leaveM_ ?zq3k1 ?zq3k2 ?_; (case zq3k1 => k_asm); (case zq3k2 => k_asm); k_whole); intro kF kN kK kO))
  k_with "execs cons" => (k_fold)
  k_with "storeName" => (dsimp only)
  k_with "newList" => (dsimp only)
  k_with "newTuple" => (dsimp only)
  k_with "truthy bool" => (dsimp only)
  k_with "spliced" => (dsimp only)
  k_with "callWith ref" => (dsimp only)
  k_with "compareOp" => (dsimp only)
  k_with "call ref" => (dsimp only)
  k_with "mine ret" => (((case B => k_asm); (case F => k_asm); (case X => k_asm); (case N => k_asm); (case T => k_asm); (case hk => first | exact rfl | assumption); (case hd => walk_at "mine units"); (case hu => walk_at "mine units")))
  k_with "mine units" => (k_dflt (first | exact unit0 (by assumption) | exact unit1 (by assumption) (by exact rfl) | exact unit2 (by assumption) (by exact rfl) | exact unit3 (by assumption) (by exact rfl) | decide))
  k_with "mine and" => ((first | with_reducible assumption | (apply And.right; first | with_reducible assumption | (apply And.right; first | with_reducible assumption | (apply And.right; first | with_reducible assumption | (apply And.right; first | with_reducible assumption | (apply And.right; first | with_reducible assumption | (apply And.right; first | with_reducible assumption | (apply And.right; first | with_reducible assumption | (apply And.right; with_reducible assumption))))))))))
  k_with "mine in" => (first | (apply And.left; walk_at "mine and") | walk_at "mine and")
  k_with "mine ne" => ((try dsimp only); first | (apply Nat.ne_of_lt; walk_at "mine in") | (apply Nat.ne_of_gt; walk_at "mine in") | walk_at "mine in" | (apply Ne.symm; walk_at "mine in"))
  k_with "eval Lambda" => ((k_here; k_dflt (refine' kla_eval ?zq39d0 ?_; (case zq39d0 => exact rfl)); (k_dflt (refine' kla_nest ?zq39F ?zq39N ?zq39T ?zq39C ?zq39cd ?zq39U ?zq39t ?zq39n ?zq39cl ?_; (case zq39F => k_asm); (case zq39N => k_asm); (case zq39T => k_asm); (case zq39cd => exact rfl); (case zq39C => assumption); (case zq39U => exact UpdF.tail (by assumption) (UpdF.head (fun _ h => nomatch h))); (case zq39t => exact True.intro); (case zq39n => rfl); (case zq39cl => exact rfl); k_whole); intro f' c' oc' vs' t' ct' h' tk' F' N' d1' d2' l1 l2; (try dsimp only at N'); (try k_lt l1); (try k_lt2 l2))))
  walk_at "mine enter"
  (rename _ = sans _ _ => hg)
  rw [← hg] at hP
  obtain ⟨hcode, hrows⟩ := hP
  k_steps
  · exact spec_ret hret (by assumption) (by assumption) (news_sub (by assumption) perm5) (by assumption) (off_sub (by assumption) perm5) (laidEnd_put (lay_puts (laid_go hbel (by assumption)) h2 h3 (lay_eq (by assumption))) (tabNow_new (by k_mem) (by assumption) (by assumption)) rfl rfl (by omega) (by omega) (off2 (by omega) (by omega) (by omega) (by omega)))
  · exact spec_ret hret (by assumption) (by assumption) (news_sub (by assumption) perm4') (by assumption) (off_sub (by assumption) perm4') (laidEnd_halt (lay_halts (laid_halt (by assumption)) h2 h3) (tabNow_new (by k_mem) (by assumption) (by assumption)) (off2 (by omega) (by omega) (by omega) (by omega)))
end
section
theorem lam_found (c' : Addr) : codeAmong { line := 138, col := 12, endLine := 138, endCol := 30 } (#[rawInt 138, rawInt 12, Value.ref c']).toList = some (.ref c') := by
  simp [codeAmong, rawInt]
theorem laid_specB (w : World) (lr c' : Addr) (rws : List (Addr × Nat)) (n : Nat) (num bel : Nat) (t1 t2 : Tok) (hlr : lr ≠ 160) (hs : (keysOf (rws.map (·.2))).Pairwise (· ≤ ·)) (hb : ∀ p ∈ rws, p.2 < 65536) (hlen : rws.length < 100) (hnum : num < 65536) (hbel : bel ≤ 255) :
    Spec 20 w 165 [.ref lr, .int num t1, .int bel t2] (fun h => (CodeHd h 164 160 ∧ ∀ p ∈ rws, RowAt p.1 p.2 h) ∧ h.CodeRec (.ref c') lamQual) [(lr, listOf (refsOf rws).toArray n), (160, tabObj #[rawInt 138, rawInt 12, .ref c'])] (LaidEnd lr rws n num #[rawInt 138, rawInt 12, .ref c']) := by
  unfold Spec SpecK
  k_fill
  intro p loose mean mg mb dp un gd cn cs a ccd cl outer A₀ base h₀ L m s Q E B F X N hP T hk9 hdp hun hret
  w_on
  k_with_none
  k_with "exec While Compare cons nil" => (k_dflt (k_while (fun _ x => LaidInv (rws.map (·.2)) num x) (fun _ x => x.toNat / 256) "number"); (rename LaidInv _ _ _ => hex); (obtain ⟨m9, k, rfl, h1, h2, h3⟩ := hex))
  k_with "state" => first | exact laid_start hnum | exact (lay_step hbel (by assumption) h1 h2 h3 (lay_ne (by assumption)) (by assumption) (by assumption) (by assumption)).1
  k_with "measure" => exact (lay_step hbel (by assumption) h1 h2 h3 (lay_ne (by assumption)) (by assumption) (by assumption) (by assumption)).2
  k_with "call ref" => (k_dflt (refine' spec_v1 (size_specI w _ (m9 / 256) _ (fdiv_cast m9 256) (by omega)) ?B ?F ?X ?N ?T ?hk ?hd ?hu trivial ?_; walk_at "mine ret"); (intro t9 h9 tk9 F9 N9))
  k_with "call ref" => (k_dflt (refine' spec_v0 (bisL_spec w _ lr (refsOf rws) (fun i => (keysOf (rws.map (·.2))).getD i 0) (bl (m9 / 256)) (layL (keysOf (rws.map (·.2))) (bl (m9 / 256))) _ (LamPk _ rws) LamPk.keeps (lay_hl hlen) (keys_spec w _ rws rws (fun _ h => h)) (lay_hcL hs _) (lay_hcl rws _)) ?B ?F ?X ?N ?T ?hk ?hd ?hu ?hp ?_; walk_at "mine ret"; (case hp => exact ⟨News.isList (by assumption) (by k_mem), (lamB (by assumption) (by assumption) (by k_mem) hrec).fn, lamPk_of (by assumption) (lamB (by assumption) (by assumption) (by k_mem) hrec) hrows⟩)); (intro t9 h9 tk9 F9 N9))
  k_with "call ref" => (k_dflt (refine' spec_v0 (bisR_spec w _ lr (refsOf rws) (fun i => (keysOf (rws.map (·.2))).getD i 0) (bl (m9 / 256)) (layR (keysOf (rws.map (·.2))) (bl (m9 / 256))) _ (LamPk _ rws) LamPk.keeps (lay_hl hlen) (keys_spec w _ rws rws (fun _ h => h)) (lay_hcR hs _) (layR_len rws _)) ?B ?F ?X ?N ?T ?hk ?hd ?hu ?hp ?_; walk_at "mine ret"; (case hp => exact ⟨News.isList (by assumption) (by k_mem), (lamB (by assumption) (by assumption) (by k_mem) hrec).fn, lamPk_of (by assumption) (lamB (by assumption) (by assumption) (by k_mem) hrec) hrows⟩)); (intro t9 h9 tk9 F9 N9))
  k_with "call ref" => (k_dflt (refine' spec_use3 (insR_spec w _ lr (refsOf rws) n _ (fun i => (keysOf (rws.map (·.2))).getD i 0) (bl (m9 / 256)) (layR (keysOf (rws.map (·.2))) (bl (m9 / 256))) (LamPk _ ((_, m9) :: rws)) LamPk.keeps (lay_hl hlen) (keys_spec w _ rws _ (fun _ h => .tail _ h)) (key_spec w _ _ (_, m9) (.head _)) (lay_hcR hs _) (layR_len rws _)) ?B ?F ?X ?N ?T ?hk ?hd ?hu ?q1 ?q2 (Ne.symm hlr) ?hp ?_; walk_at "mine ret"; (case q1 => omega); (case q2 => omega);  (case hp => exact lamPk_sans (by assumption) (by assumption) (in1 (by k_mem)) (lam_sansB (by assumption) (by assumption) (by k_mem) hrec (in1 (by k_mem)) (ne1 (by omega))) hrows (row_sans (by assumption) (by k_mem) rfl rfl (ne1 (by omega))))); (intro h9 tk9 F9 N9))
  k_with "subscriptTail Name Name ref int" => ((obtain ⟨q, hq, e1, e2, e3⟩ := lay_row hs (lay_ne (by assumption))); (have hq6 := hb q hq); (obtain ⟨u1, u2, ht⟩ := hrows q hq); k_dflt (refine' item_list ?a ?e ?b ?c ?_; (case a => exact News.isList (by assumption) (by k_mem)); (case e => exact rfl); (case b => (have := layL_len rws (bl (m9 / 256)); omega)); (case c => exact e1); k_whole))
  k_with "subscriptTail Subscript Constant ref int" => (k_dflt (refine' item_tupleT (j := 1) (l := [_, _]) (IsTup.keeps ht (fun b o e => Fr.keep (by assumption) b o e)) ?a ?b ?c ?d ?_; (case a => decide); (case b => decide); (case c => rfl); (case d => rfl); k_whole))
  k_with "mine enter" => (k_dflt (refine' enterM (args := ⟨_, _⟩) ?zq1B ?zq1F ?zq1X ?zq1N ?zq1T ?zq1kA ?zq1kF ?zq1kK ?zq1k6 ?zq1k7 ?zq1k8 ?zq1k9 ?zq1kB ?_ ?zq1c2 ?zq1c3 ?zq1c4 ?zq1c5; (case zq1kA => exact rfl); (case zq1kF => exact rfl); (case zq1kK => assumption); (case zq1B => k_asm); (case zq1F => k_asm); (case zq1X => k_asm); (case zq1N => k_asm); (case zq1T => k_asm); (case zq1k6 => k_is); (case zq1k7 => k_is); (case zq1k8 => walk_at "mine units"); (case zq1k9 => first | exact BindsTo.of_eq rfl | exact binds_K (by k_in) rfl (by k_is) rfl rfl rfl); (case zq1c5 => decide); (case zq1kB => exact locs rfl); (case zq1c2 => exact rfl); (case zq1c3 => exact rfl); (case zq1c4 => exact rfl); k_whole; intro g' L' h' hg' F' N' B' X' T'; (try dsimp only); (try k_fold)))
  k_with "LeaveM" => ((k_dflt (refine' leaveM_ ?zq3k1 ?zq3k2 ?_; (case zq3k1 => k_asm); (case zq3k2 => k_asm); k_whole); intro kF kN kK kO))
  k_with "execs cons" => (k_fold)
  k_with "storeName" => (dsimp only)
  k_with "newList" => (dsimp only)
  k_with "newTuple" => (dsimp only)
  k_with "truthy bool" => (dsimp only)
  k_with "spliced" => (dsimp only)
  k_with "callWith ref" => (dsimp only)
  k_with "compareOp" => (dsimp only)
  k_with "call ref" => (dsimp only)
  k_with "mine ret" => (((case B => k_asm); (case F => k_asm); (case X => k_asm); (case N => k_asm); (case T => k_asm); (case hk => first | exact rfl | assumption); (case hd => walk_at "mine units"); (case hu => walk_at "mine units")))
  k_with "mine units" => (k_dflt (first | exact unit0 (by assumption) | exact unit1 (by assumption) (by exact rfl) | exact unit2 (by assumption) (by exact rfl) | exact unit3 (by assumption) (by exact rfl) | decide))
  k_with "mine and" => ((first | with_reducible assumption | (apply And.right; first | with_reducible assumption | (apply And.right; first | with_reducible assumption | (apply And.right; first | with_reducible assumption | (apply And.right; first | with_reducible assumption | (apply And.right; first | with_reducible assumption | (apply And.right; first | with_reducible assumption | (apply And.right; first | with_reducible assumption | (apply And.right; with_reducible assumption))))))))))
  k_with "mine in" => (first | (apply And.left; walk_at "mine and") | walk_at "mine and")
  k_with "mine ne" => ((try dsimp only); first | (apply Nat.ne_of_lt; walk_at "mine in") | (apply Nat.ne_of_gt; walk_at "mine in") | walk_at "mine in" | (apply Ne.symm; walk_at "mine in"))
  k_with "eval Lambda" => ((k_here; k_dflt (refine' kla_eval ?zq40d0 ?_; (case zq40d0 => exact rfl)); (k_dflt (refine' kla_hit ?zq40F ?zq40N ?zq40T ?zq40C ?zq40cd ?zq40mem ?zq40t ?zq40n ?zq40cl ?_; (case zq40F => k_asm); (case zq40N => k_asm); (case zq40T => k_asm); (case zq40cd => exact rfl); (case zq40C => assumption); (case zq40mem => exact .tail _ (.head _)); (case zq40t => kn_triples); (case zq40n => exact hfound); (case zq40cl => exact rfl); k_whole); intro f' ct' h' tk' F' N' l1; (try dsimp only at N'); (try k_lt l1))))
  walk_at "mine enter"
  (rename _ = sans _ _ => hg)
  rw [← hg] at hP
  obtain ⟨⟨hcode, hrows⟩, hrec⟩ := hP
  have hfound := lam_found c'
  k_steps
  · exact spec_ret hret (by assumption) (by assumption) (news_sub (by assumption) perm4) (by assumption) (off_sub (by assumption) perm4) (laidEnd_put (lay_puts (laid_go hbel (by assumption)) h2 h3 (lay_eq (by assumption))) (Or.inl ⟨by simp, rfl⟩) rfl rfl (by omega) (by omega) (off1 (by omega) (by omega)))
  · exact spec_ret hret (by assumption) (by assumption) (news_sub (by assumption) perm3') (by assumption) (off_sub (by assumption) perm3') (laidEnd_halt (lay_halts (laid_halt (by assumption)) h2 h3) (Or.inl ⟨by simp, rfl⟩) (off1 (by omega) (by omega)))
end
section
theorem laid_spec (w : World) (lr : Addr) (rws : List (Addr × Nat)) (n : Nat) (num bel : Nat) (t1 t2 : Tok) (ps : Array Value) (hlr : lr ≠ 160) (hs : (keysOf (rws.map (·.2))).Pairwise (· ≤ ·)) (hb : ∀ p ∈ rws, p.2 < 65536) (hlen : rws.length < 100) (hnum : num < 65536) (hbel : bel ≤ 255) :
    Spec 20 w 165 [.ref lr, .int num t1, .int bel t2] (fun h => (CodeHd h 164 160 ∧ ∀ p ∈ rws, RowAt p.1 p.2 h) ∧ TabOk ps h) [(lr, listOf (refsOf rws).toArray n), (160, tabObj ps)] (LaidEnd lr rws n num ps) := by
  unfold Spec SpecK
  intro p loose mean mg mb dp un gd cn cs a ccd cl outer A₀ base h₀ L m s Q E B F X N hP T hk9 hdp hun hret
  obtain ⟨h1, h2⟩ := hP
  rcases h2 with rfl | ⟨c', rfl, hc⟩
  · exact laid_specA w lr rws n num bel t1 t2 hlr hs hb hlen hnum hbel p loose mean mg mb dp un gd cn cs a ccd cl outer A₀ base h₀ L m s Q E B F X N h1 T hk9 hdp hun hret
  · exact laid_specB w lr c' rws n num bel t1 t2 hlr hs hb hlen hnum hbel p loose mean mg mb dp un gd cn cs a ccd cl outer A₀ base h₀ L m s Q E B F X N ⟨h1, hc⟩ T hk9 hdp hun hret
end
section
section
variable {prog : Program} {w : World} {A : Around} {E : Value → Shared → Prop} {Q : Flow → Shared → Prop} {s : Shared} {env : Env} {h₀ : Heap} {target : Expr} {body : List Stmt} {I : Addr} {cls : String} {keep : List (Addr × Obj)}
theorem items_inv {xs : List Itm} (J : Nat → (Str → Option Value) → List (Addr × Obj) → Prop)
    (turn : ∀ i a m news v h tk (o : Obj), xs[i]? = some a → J i m news → a.Is v h → o.cls = .type cls → Fr h₀ env.locals h m → News h₀ env.locals h ((I, o) :: news) →
      wpAny (model prog w) A (assign target env v) (fun _ s₂ => wpAny (model prog w) A (execs body env) (UnrPostW h₀ env.locals { s with heap := h, toks := tk } [(I, o)] (fun m' n' => SubL keep n' ∧ J (i + 1) m' n') Q) E s₂) E { s with heap := h, toks := tk })
    (fin : ∀ m news h tk, J xs.length m news → Fr h₀ env.locals h m → News h₀ env.locals h news → Q .next { s with heap := h, toks := tk }) :
    ∀ (r : List Itm) (i : Nat) (m : Str → Option Value) (news : List (Addr × Obj)), xs.drop i = r → i + r.length = xs.length → J i m news → ItemsRest prog w A E h₀ env target body Q s [(I, cls)] keep r m news
  | [], i, m, news, _, hl, hj => fun h tk F N => fin m news h tk (by rw [← (show i = xs.length by simpa using hl)]; exact hj) F N
  | a :: r, i, m, news, e, hl, hj => fun v h tk hv F => AllObj.cons fun o ho => AllObj.nil fun N => by
    have hi : i < xs.length := by simp at hl; omega
    have ha : xs[i]? = some a := by
      have := congrArg (fun l => l[0]?) e
      simpa using this
    have hr : xs.drop (i + 1) = r := by
      have := congrArg List.tail e
      simpa using this
    refine wpAny_mono (turn i a m news v h tk o ha hj hv ho F N) (fun _ s₂ q => wpAny_mono q (fun f s₃ p => ?_) fun _ _ x => x) fun _ _ x => x
    cases f with
    | ret v => exact p
    | brk => exact p
    | next =>
      obtain ⟨h', tk', m', news', e', F', N', off, k', j'⟩ := p
      exact ⟨h', tk', m', news', e', F', N', off, k', items_inv J turn fin r (i + 1) m' news' hr (by simp at hl; omega) j'⟩
    | cont =>
      obtain ⟨h', tk', m', news', e', F', N', off, k', j'⟩ := p
      exact ⟨h', tk', m', news', e', F', N', off, k', items_inv J turn fin r (i + 1) m' news' hr (by simp at hl; omega) j'⟩
end
theorem items_inv0 {prog : Program} {w : World} {A : Around} {E : Value → Shared → Prop} {Q : Flow → Shared → Prop} {s : Shared} {env : Env} {h₀ : Heap} {target : Expr} {body : List Stmt} {I : Addr} {cls : String} {keep : List (Addr × Obj)} {xs : List Itm} {m : Str → Option Value} {news : List (Addr × Obj)} (J : Nat → (Str → Option Value) → List (Addr × Obj) → Prop)
    (turn : ∀ i a m news v h tk (o : Obj), xs[i]? = some a → J i m news → a.Is v h → o.cls = .type cls → Fr h₀ env.locals h m → News h₀ env.locals h ((I, o) :: news) →
      wpAny (model prog w) A (assign target env v) (fun _ s₂ => wpAny (model prog w) A (execs body env) (UnrPostW h₀ env.locals { s with heap := h, toks := tk } [(I, o)] (fun m' n' => SubL keep n' ∧ J (i + 1) m' n') Q) E s₂) E { s with heap := h, toks := tk })
    (fin : ∀ m news h tk, J xs.length m news → Fr h₀ env.locals h m → News h₀ env.locals h news → Q .next { s with heap := h, toks := tk })
    (hj : J 0 m news) : ItemsRest prog w A E h₀ env target body Q s [(I, cls)] keep xs m news :=
  items_inv J turn fin xs 0 m news rfl (by simp) hj
end
section
theorem seq_list_iadd : seqSlot? (.type "list") (dunderI "add") = pure (some (.builtin "list.__iadd__")) := PySem.seqSlot_of PySem.F.slot_list_iadd.lookup (by decide +kernel)
theorem noInplace_list : fillsInplaceSlot (.type "list") "add" (Operator.Add == .Add) = pure false := by
  unfold fillsInplaceSlot
  show (typeLookup (.type "list") (dunderI "add") >>= fun fi => pure (fi.isSome && !isSeqSlot fi)) = pure false
  rw [PySem.F.slot_list_iadd.lookup]
  show (pure (Option.isSome (some (Value.builtin "list.__iadd__")) && !isSeqSlot (some (.builtin "list.__iadd__"))) : Sem Bool) = pure false
  rw [show isSeqSlot (some (.builtin "list.__iadd__")) = true by decide +kernel]; rfl
section
variable {prog : Program} {w : World} {A : Around} {E : Value → Shared → Prop} {s : Shared} {h₀ : Heap} {L D b : Addr} {m : Str → Option Value} {news news' : List (Addr × Obj)} {its its2 : Array Value} {n n2 : Nat} {l : List Value}
theorem iadd_road {a b : Value} {Q : Value → Shared → Prop} (ha : s.TypeIs a "list") (hb : s.TypeIs b "list")
    (hc : wpAny (model prog w) A (call (.builtin "list.__iadd__") [a, b]) Q E s) : wpAny (model prog w) A (inplaceOp .Add a b) Q E s := by
  unfold inplaceOp
  refine wpAny_holding ?_
  refine wpAny_bind (wpAny_typeOf ha (wpAny_bind (wpAny_of_eq noInplace_list ?_)))
  show wpAny (model prog w) A (if false = true then _ else _) Q E s
  rw [if_neg Bool.false_ne_true]
  refine wpAny_bind (wpAny_binaryOp1_none (nm := "add") ha hb noFill_list_add ?_)
  refine wpAny_bind (wpAny_of_eq seq_list_iadd ?_)
  exact wpAny_bind (wpAny_rule hc)
theorem iadd_list {Q : Value → Shared → Prop} (F : Fr h₀ L s.heap m) (N : News h₀ L s.heap news) (hb : (b, listOf its2 n2) ∈ news) (e : its.toList ++ its2.toList = l) (hne : its2.toList.length ≠ 0)
    (U : Upd D (listOf its n) (listOf l.toArray (n + 1)) news news') (hd : ¬(!its.isEmpty && Builtin.List.listTooLong (its.size + its2.size)) = true) (hz : its.toList.length ≤ sizeLine) (hz2 : its.size + its2.size ≤ sizeLine + 1)
    (h : ∀ h', Fr h₀ L h' m → News h₀ L h' news' → Q (.ref D) { s with heap := h' }) : wpAny (model prog w) A (inplaceOp .Add (.ref D) (.ref b)) Q E s := by
  obtain ⟨pre, post, rfl, rfl, a, c⟩ := U.split
  have z := N (D, listOf its n) (List.mem_append.mpr (.inr (.head _)))
  refine iadd_road ⟨_, z.1, rfl⟩ ⟨_, (N _ hb).1, rfl⟩ ?_
  refine call_meets PySem.F.slot_list_iadd ⟨_, z.1, rfl⟩ PySem.F.entry_list_iadd (PySem.F.args_list_iadd_2 _ _) (PySem.AutoSeq1.list___iadd___list_list_0 D its n b its2 n2 hd (by simpa using hz) hz2) ⟨z.1, (N _ hb).1, h _ (F.change (Heap.SameBut.update ..) z.2.1 z.2.2) (kl_turn _ N a c ?_ ?_)⟩
  · subst e
    apply Array.toList_inj.mp
    simp
  · subst e
    simp at hne ⊢
    exact hne
theorem iadd_lists {vs ws : List Value} {Q : Value → Shared → Prop} (F : Fr h₀ L s.heap m) (N : News h₀ L s.heap news) (hb : (b, listOf ws.toArray n2) ∈ news) (hne : ws.length ≠ 0)
    (U : Upd D (listOf vs.toArray n) (listOf (vs ++ ws).toArray (n + 1)) news news') (hz : vs.length < 1000) (hz2 : ws.length < 1000)
    (h : ∀ h', Fr h₀ L h' m → News h₀ L h' news' → Q (.ref D) { s with heap := h' }) : wpAny (model prog w) A (inplaceOp .Add (.ref D) (.ref b)) Q E s := by
  refine iadd_list (its := vs.toArray) (its2 := ws.toArray) (l := vs ++ ws) F N hb (by simp) (by simpa using hne) U ?_ ?_ ?_ h
  · have : Builtin.List.listTooLong (vs.toArray.size + ws.toArray.size) = false := by
      unfold Builtin.List.listTooLong
      rw [sizeLine_eq]
      simp
      omega
    rw [this]; simp
  · rw [sizeLine_eq]; simp; omega
  · rw [sizeLine_eq]; simp; omega
end
end
section
theorem news_subs {g h : Heap} {L : Addr} {n1 n2 : List (Addr × Obj)} (N : News g L h n1) (hs : ∀ p ∈ n2, p ∈ n1) : News g L h n2 := fun p hp => N p (hs p hp)
noncomputable def partsL : List Nat := [2, 3, 7, 11, 13]
noncomputable def strip0 : Nat → Nat → Nat → Nat
  | 0, c, _ => c
  | k + 1, c, p => if rem c p = 0 then strip0 k (quo c p) p else c
@[irreducible] noncomputable def strip (k c p : Nat) : Nat := strip0 k c p
theorem strip_succ (k n p : Nat) : strip (k + 1) n p = if rem n p = 0 then strip k (quo n p) p else n := by
  unfold strip; rfl
@[irreducible] noncomputable def dueStep (ds : List Nat) (c p : Nat) : List Nat := if rem c p = 0 then ds ++ ds.map (fun e => timesTo e p 7) else ds
@[irreducible] noncomputable def prodAt (whole i : Nat) : Nat × List Nat := (partsL.take i).foldl (fun c p => (strip 7 c.1 p, dueStep c.2 c.1 p)) (whole, [1])
@[irreducible] noncomputable def prodEnd (whole : Nat) : List Nat := if 1 < (prodAt whole 5).1 then (prodAt whole 5).2 ++ (prodAt whole 5).2.map (fun e => timesTo e (prodAt whole 5).1 7) else (prodAt whole 5).2
theorem strip_facts : ∀ c, c < 128 → c ≠ 0 → ∀ p ∈ partsL, rem c p = 0 → quo c p ≠ 0 ∧ quo c p < c ∧ strip 7 (quo c p) p = strip 7 c p := by decide +kernel
theorem due_facts : ∀ c, c < 128 → c ≠ 0 → ∀ i, i < 6 → (prodAt c i).1 < 128 ∧ (prodAt c i).1 ≠ 0 ∧ (prodAt c i).2.length ≠ 0 ∧ (prodAt c i).2.length < 20 ∧ ∀ d ∈ (prodAt c i).2, d < 128 := by decide +kernel
theorem prodAt_succ {whole i p : Nat} (h : partsL[i]? = some p) : prodAt whole (i + 1) = (strip 7 (prodAt whole i).1 p, dueStep (prodAt whole i).2 (prodAt whole i).1 p) := by
  unfold prodAt
  rw [List.take_add_one, h]
  simp [List.foldl_append]
theorem prodAt_zero (whole : Nat) : prodAt whole 0 = (whole, [1]) := by unfold prodAt; rfl

noncomputable abbrev natInts (ds : List Nat) : List Int := ds.map fun d : Nat => (d : Int)
noncomputable def ProdJ (T l c1 c2 : Addr) (oT : Obj) (m0 : Str → Option Value) (whole i : Nat) (m' : Str → Option Value) (news : List (Addr × Obj)) : Prop :=
  (∀ y, m' y = m0 y) ∧ ∃ vs n o1 o2 v1 t2, SubL [(T, oT), (l, listOf (List.toArray vs) n), (c1, o1), (c2, o2)] news ∧ IntsAre vs (natInts (prodAt whole i).2) ∧ o1.data = .cell v1 ∧ o2.data = .cell (some (.int ((prodAt whole i).1 : Nat) t2))
noncomputable def AllNe (d : Nat) : List (Addr × Obj) → Prop
  | [] => True
  | p :: r => @Ne Nat p.1 d ∧ AllNe d r
theorem allNe_of {d : Nat} {o : Obj} : ∀ {l : List (Addr × Obj)}, (∀ q ∈ [((d : Addr), o)], ∀ p ∈ l, q.1 ≠ p.1) → AllNe d l
  | [], _ => trivial
  | p :: _, h => ⟨fun e => h _ (.head _) p (.head _) e.symm, allNe_of fun q hq p hp => h q hq p (.tail _ hp)⟩
theorem news_subL {g h : Heap} {L : Addr} {n1 n2 : List (Addr × Obj)} (N : News g L h n1) (hs : SubL n2 n1) : News g L h n2 := fun p hp => N p (hs.mem p hp)
theorem news_subL1 {g h : Heap} {L : Addr} {x : Addr × Obj} {n1 n2 : List (Addr × Obj)} (N : News g L h (x :: n1)) (hs : SubL n2 n1) : News g L h (x :: n2) := fun p hp => by
  rcases List.mem_cons.mp hp with rfl | hp
  · exact N _ (.head _)
  · exact N p (.tail _ (hs.mem p hp))
theorem five_items {t1 t2 t3 t4 t5 : Tok} {i : Nat} {a : Itm} {v : Value} {h : Heap} (ha : [Itm.val (.int 2 t1), .val (.int 3 t2), .val (.int 7 t3), .val (.int 11 t4), .val (.int 13 t5)][i]? = some a) (hv : a.Is v h) : ∃ p t, partsL[i]? = some p ∧ v = .int (p : Nat) t := by
  match i, ha with
  | 0, ha => cases ha; exact ⟨2, t1, rfl, hv⟩
  | 1, ha => cases ha; exact ⟨3, t2, rfl, hv⟩
  | 2, ha => cases ha; exact ⟨7, t3, rfl, hv⟩
  | 3, ha => cases ha; exact ⟨11, t4, rfl, hv⟩
  | 4, ha => cases ha; exact ⟨13, t5, rfl, hv⟩
inductive Mark5 (I T l c1 c2 : Addr) : Prop
  | mk
theorem prod_items {prog : Program} {w : World} {A : Around} {E : Value → Shared → Prop} {Q : Flow → Shared → Prop} {s : Shared} {env : Env} {h₀ : Heap} {target : Expr} {body : List Stmt} {I : Addr} {cls : String} {keep : List (Addr × Obj)} {t1 t2 t3 t4 t5 : Tok} {m : Str → Option Value}
    {T l c1 c2 : Addr} {oT o1 o2 : Obj} {t0 : Tok} {n0 : Nat} (whole : Nat) (d1 : ∃ v1, o1.data = .cell v1) (d2 : ∃ tw, o2.data = .cell (some (.int (whole : Nat) tw)))
    (turn : ∀ i p t vs n p1 p2 v1 t2 h tk (o : Obj) (c : Nat) (ds : List Nat), Mark5 I T l c1 c2 → partsL[i]? = some p → prodAt whole i = (c, ds) → IntsAre vs (natInts ds) → p1.data = .cell v1 → p2.data = .cell (some (.int (c : Nat) t2)) → o.cls = .type cls → Fr h₀ env.locals h m → News h₀ env.locals h [(I, o), (T, oT), (l, listOf (List.toArray vs) n), (c1, p1), (c2, p2)] →
      wpAny (model prog w) A (assign target env (.int (p : Nat) t)) (fun _ s₂ => wpAny (model prog w) A (execs body env) (UnrPostW h₀ env.locals { s with heap := h, toks := tk } [(I, o)] (fun m' n' => SubL keep n' ∧ ProdJ T l c1 c2 oT m whole (i + 1) m' n') Q) E s₂) E { s with heap := h, toks := tk })
    (fin : ∀ vs n p1 p2 v1 t2 h tk (c : Nat) (ds : List Nat), prodAt whole 5 = (c, ds) → IntsAre vs (natInts ds) → p1.data = .cell v1 → p2.data = .cell (some (.int (c : Nat) t2)) → Fr h₀ env.locals h m → News h₀ env.locals h [(T, oT), (l, listOf (List.toArray vs) n), (c1, p1), (c2, p2)] → Q .next { s with heap := h, toks := tk }) :
    ItemsRest prog w A E h₀ env target body Q s [(I, cls)] keep [.val (.int 2 t1), .val (.int 3 t2), .val (.int 7 t3), .val (.int 11 t4), .val (.int 13 t5)] m [(T, oT), (l, listOf #[.int 1 t0] n0), (c1, o1), (c2, o2)] := by
  obtain ⟨v1, d1⟩ := d1
  obtain ⟨tw, d2⟩ := d2
  refine items_inv0 (ProdJ T l c1 c2 oT m whole) (fun i a m' news v h tk o ha hj hv ho F N => ?_) (fun m' news h tk hj F N => ?_) ⟨fun _ => rfl, [_], _, _, _, _, _, ⟨.head _, .tail _ (.head _), .tail _ (.tail _ (.head _)), .tail _ (.tail _ (.tail _ (.head _))), trivial⟩, by rw [prodAt_zero]; exact .cons 1 _ .nil, d1, by rw [prodAt_zero]; exact d2⟩
  · refine shut fun G0 hG => ?_
    obtain ⟨hm, vs, n, p1, p2, v1, t2, hs, hi, e1, e2⟩ := hj
    obtain ⟨p, t, hp, ev⟩ := five_items ha hv
    rw [funext hm] at F
    refine hG ?_
    rw [ev]
    exact turn i p t vs n p1 p2 v1 t2 h tk o (prodAt whole i).1 (prodAt whole i).2 ⟨⟩ hp (Prod.eta _).symm hi e1 e2 ho F (news_subL1 N hs)
  · obtain ⟨hm, vs, n, p1, p2, v1, t2, hs, hi, e1, e2⟩ := hj
    rw [funext hm] at F
    exact fin vs n p1 p2 v1 t2 h tk (prodAt whole 5).1 (prodAt whole 5).2 (Prod.eta _).symm hi e1 e2 F (news_subL N hs)
theorem parts_mem {i p : Nat} (h : partsL[i]? = some p) : p ∈ partsL := List.mem_of_getElem? h
theorem parts_small {p : Nat} (h : p ∈ partsL) : p < 2 ^ 20 ∧ p ≠ 0 := by revert p; decide
noncomputable def ProdW (I T l c1 c2 : Addr) (o oT ol p1 : Obj) (m0 : Str → Option Value) (c p : Nat) (n : Nat) (m' : Str → Option Value) (news : List (Addr × Obj)) : Prop :=
  (∀ y, m' y = m0 y) ∧ n < 128 ∧ n ≠ 0 ∧ strip 7 n p = strip 7 c p ∧ ∃ q2 t, news = [(I, o), (T, oT), (l, ol), (c1, p1), (c2, q2)] ∧ q2.data = .cell (some (.int (n : Nat) t))
theorem prod_while {prog : Program} {w : World} {A : Around} {E : Value → Shared → Prop} {Q : Flow → Shared → Prop} {s : Shared} {env : Env} {h₀ : Heap} {L : Addr} {test : Expr} {body : List Stmt} {pos : Pos} {m : Str → Option Value} {news : List (Addr × Obj)}
    {I T l c1 c2 : Addr} {o oT ol p1 p2 : Obj} {t2 : Tok} {c p : Nat} (mk : Mark5 I T l c1 c2) (F : Fr h₀ L s.heap m) (N : News h₀ L s.heap news) (hn : ∀ x ∈ [(I, o), (T, oT), (l, ol), (c1, p1), (c2, p2)], x ∈ news) (hc : c < 128) (h0 : c ≠ 0) (d2 : p2.data = .cell (some (.int (c : Nat) t2)))
    (turn : ∀ (n : Nat) q2 t h tk, Mark5 I T l c1 c2 → n < 128 → n ≠ 0 → strip 7 n p = strip 7 c p → q2.data = .cell (some (.int (n : Nat) t)) → Fr h₀ L h m → News h₀ L h [(I, o), (T, oT), (l, ol), (c1, p1), (c2, q2)] →
      wpAny (model prog w) A (isTrue test env (eval test env)) (fun b s₂ =>
        if b = true then wpAny (model prog w) A (execs body env) (WhileStep2 h₀ L s (ProdW I T l c1 c2 o oT ol p1 m c p) Q n) E s₂ else Q .next s₂) E { s with heap := h, toks := tk })
    (hE : PassesOwn (model prog w) A env E := by passes_own) :
    wpAny (model prog w) A (exec (.While test body [] pos) env) Q E s := by
  refine While_inv2 (ProdW I T l c1 c2 o oT ol p1 m c p) F (news_subs N hn) ⟨fun _ => rfl, hc, h0, rfl, _, _, rfl, d2⟩ (fun n m₁ news₁ h₁ tk₁ F₁ N₁ hj => ?_) hE
  obtain ⟨hm, e1, e2, e3, q2, t, rfl, d⟩ := hj
  have hm' : m₁ = m := funext hm
  subst hm'
  exact turn n q2 t h₁ tk₁ mk e1 e2 e3 d F₁ N₁
theorem prod_left {I T l c1 c2 : Addr} {o oT ol p1 q2 : Obj} {m m' : Str → Option Value} {c p n : Nat} {t : Tok} {h₀ h' : Heap} {L : Addr} {s : Shared} {tk' : Nat} {news : List (Addr × Obj)} {Q : Flow → Shared → Prop} (hp : p ∈ partsL) (h1 : n < 128) (h2 : n ≠ 0) (h3 : strip 7 n p = strip 7 c p) (h4 : rem n p = 0)
    (F : Fr h₀ L h' m') (N : News h₀ L h' news) (hn : ∀ x ∈ [(I, o), (T, oT), (l, ol), (c1, p1), (c2, q2)], x ∈ news) (hm : ∀ y, m' y = m y) (d : q2.data = .cell (some (.int (quo n p : Nat) t))) :
    WhileStep2 h₀ L s (ProdW I T l c1 c2 o oT ol p1 m c p) Q n .next { s with heap := h', toks := tk' } := by
  obtain ⟨f1, f2, f3⟩ := strip_facts n h1 h2 p hp h4
  exact ⟨h', tk', m', _, quo n p, rfl, F, news_subs N hn, f2, hm, Nat.lt_trans f2 h1, f1, f3.trans h3, q2, t, rfl, d⟩
theorem strip_stop {n p : Nat} (h : rem n p ≠ 0) : strip 7 n p = n := (strip_succ 6 n p).trans (if_neg h)
theorem due_of {whole i c : Nat} {ds : List Nat} (h : prodAt whole i = (c, ds)) (h1 : whole < 128) (h0 : whole ≠ 0) (hi : i < 6) : c < 128 ∧ c ≠ 0 ∧ ds.length ≠ 0 ∧ ds.length < 20 ∧ ∀ d ∈ ds, d < 128 := by
  have := due_facts whole h1 h0 i hi
  rw [h] at this
  exact this
theorem parts_lt {i p : Nat} (h : partsL[i]? = some p) : i < 6 := by
  have : i < partsL.length := (List.getElem?_eq_some_iff.mp h).1
  have e : partsL.length = 5 := rfl
  omega
theorem nat_at {vs : List Value} {ds : List Nat} (h : IntsAre vs (natInts ds)) {i : Nat} {v : Value} (e : vs.toArray[i]? = some v) : ∃ d t, v = .int (d : Nat) t ∧ ds[i]? = some d := by
  obtain ⟨n, t, rfl, hn⟩ := IntsAre.at h i v (by simpa using e)
  rw [List.getElem?_map] at hn
  obtain ⟨d, hd, rfl⟩ := Option.map_eq_some_iff.mp hn
  exact ⟨d, t, rfl, hd⟩
theorem ints_map (f : Nat → Nat) : ∀ (ys : List Value) (ds : List Nat), ys.length = ds.length → (∀ (i : Nat) (y : Value), ys[i]? = some y → ∃ d t, ds[i]? = some d ∧ y = Value.int (f d : Nat) t) → IntsAre ys (natInts (ds.map f))
  | [], [], _, _ => .nil
  | [], _ :: _, h, _ => by simp at h
  | _ :: _, [], h, _ => by simp at h
  | y :: ys, d :: ds, h, g => by
    obtain ⟨d', t, e1, e2⟩ := g 0 y rfl
    have e3 : d' = d := by simpa using e1.symm
    subst e3
    rw [e2]
    exact .cons _ t (ints_map f ys ds (by simpa using h) fun i z hz => g (i + 1) z (by simpa using hz))
theorem ints_len {vs : List Value} {ds : List Nat} (h : IntsAre vs (natInts ds)) : vs.length = ds.length := by
  have := h.length
  simpa using this
theorem prodJ_end {T l c1 c2 : Addr} {oT q1 q2 : Obj} {m m' : Str → Option Value} {whole i p c n nn : Nat} {ds ds' : List Nat} {vs : List Value} {v1 : Option Value} {t : Tok} {news : List (Addr × Obj)}
    (hn : SubL [(T, oT), (l, listOf vs.toArray nn), (c1, q1), (c2, q2)] news) (hm : ∀ y, m' y = m y) (hp : partsL[i]? = some p) (hc : prodAt whole i = (c, ds)) (hn0 : ¬ ((rem n p : Nat) : Int) = 0) (hs : strip 7 n p = strip 7 c p)
    (hd : dueStep ds c p = ds') (hi : IntsAre vs (natInts ds')) (d1 : q1.data = .cell v1) (d2 : q2.data = .cell (some (.int (n : Nat) t))) :
    ProdJ T l c1 c2 oT m whole (i + 1) m' news := by
  have e := prodAt_succ (whole := whole) hp
  rw [hc] at e
  have ea : (prodAt whole (i + 1)).1 = strip 7 c p := congrArg Prod.fst e
  have eb : (prodAt whole (i + 1)).2 = dueStep ds c p := congrArg Prod.snd e
  clear e
  have e2 : strip 7 n p = n := strip_stop fun h => hn0 (by rw [h]; rfl)
  rw [e2] at hs
  exact ⟨hm, vs, nn, q1, q2, v1, t, hn, by rw [eb, hd]; exact hi, d1, by rw [ea, ← hs]; exact d2⟩
theorem due_yes {ds : List Nat} {c p : Nat} (h : ((rem c p : Nat) : Int) = 0) : dueStep ds c p = ds ++ ds.map (fun e => timesTo e p 7) := by
  unfold dueStep; rw [if_pos (Int.ofNat_eq_zero.mp h)]
theorem due_no {ds : List Nat} {c p : Nat} (h : ¬ ((rem c p : Nat) : Int) = 0) : dueStep ds c p = ds := by
  unfold dueStep; rw [if_neg fun e => h (by rw [e]; rfl)]
theorem ints_app {vs ys : List Value} {ds ds' : List Nat} (h : IntsAre vs (natInts ds)) (h' : IntsAre ys (natInts ds')) : IntsAre (vs ++ ys) (natInts (ds ++ ds')) := by
  rw [natInts, List.map_append]; exact h.append h'
end
section
noncomputable def SortedOf (ds : List Nat) (r : Value) (nx : List (Addr × Obj)) : Prop :=
  ∃ (a : Addr) (vs : List Value) (ns : List Int) (n : Nat), r = .ref a ∧ (a, listOf vs.toArray n) ∈ nx ∧ IntsAre vs ns ∧ ns.Perm (natInts ds) ∧ ns.Pairwise (· ≤ ·)
theorem prodEnd_yes {whole p : Nat} {ds : List Nat} (h : prodAt whole 5 = (p, ds)) (h1 : (1 : Int) < (p : Int)) : prodEnd whole = ds ++ ds.map (fun e => timesTo e p 7) := by
  unfold prodEnd; rw [h]; exact if_pos (by show 1 < p; omega)
theorem prodEnd_no {whole p : Nat} {ds : List Nat} (h : prodAt whole 5 = (p, ds)) (h1 : ¬ (1 : Int) < (p : Int)) : prodEnd whole = ds := by
  unfold prodEnd; rw [h]; exact if_neg (by show ¬ 1 < p; omega)
theorem due_map {x : Str} {v : Option Value} {f : Str → Option Value} (y : Str) : (if y = x then v else if y = x then v else f y) = if y = x then v else f y := by
  by_cases h : y = x
  · rw [if_pos h, if_pos h]
  · rw [if_neg h, if_neg h]
theorem products_spec (w : World) (whole : Nat) (t1 : Tok) (h1 : whole < 128) (h0 : whole ≠ 0) :
    Spec 12 w 129 [.int whole t1] (fun _ => True) [] (SortedOf (prodEnd whole)) := by
  unfold Spec SpecK
  k_fill
  intro p loose mean mg mb dp un gd cn cs a ccd cl outer A₀ base h₀ L m s Q E B F X N _ T hk9 hdp hun hret
  w_on
  k_with_none
  k_with "ItemsRest" => ((with_unfolding_all refine' prod_items whole ?d1 ?d2 ?turn ?fin); (case d1 => k_dflt (exact ⟨_, by assumption⟩)); (case d2 => k_dflt (exact ⟨_, by assumption⟩)); (rotate_left); (intro vs9 n9 o1 o2 v1 t2 h9 tk9 p9 ds9 hc9 hi9 d1 d2 F9 N9; have hf9 := due_of hc9 h1 h0 (by decide)); (rotate_left); (intro i9 p9 t9 vs9 n9 o1 o2 v1 t2 h9 tk9 o9 c9 ds9 mk9 hp9 hc9 hi9 d1 d2 ho9 F9 N9); (have hm9 := parts_mem hp9); (have hs9 := parts_small hm9); (have hf9 := due_of hc9 h1 h0 (parts_lt hp9)))
  k_with "call ref" => (k_dflt (refine' spec_t (parted_spec _ _ _ _ _ ?q2) ?B ?F ?X ?N ?T ?hk ?hd ?hu trivial ?_; (case q2 => exact (parts_small (by assumption)).1); walk_at "mine args"); (intro a9 t9 u9 h9 tk9 F9 N9 O9); (replace O9 := allNe_of O9); (dsimp only [AllNe] at O9))
  k_with "call ref" => (k_dflt (refine' spec_v1 (times_spec _ _ _ _ _ ?q2) ?B ?F ?X ?N ?T ?hk ?hd ?hu trivial ?_; (case q2 => (have := hlt9 _ (List.mem_of_getElem? hd9); omega)); walk_at "mine args"); (intro t9 h9 tk9 F9 N9))
  k_with "CompSrc" => k_dflt ((have hlt9 := hf9.2.2.2.2); (refine LCg.CompSrc.ledger (by rfl) (by k_asm) (by k_asm) (by k_mem) (by (rw [sizeLine_eq, List.size_toArray, ints_len hi9]; omega)) ?_); (intro g); (refine comp_turns (fun i v => ∃ d t, ds9[i]? = some d ∧ v = .int (timesTo d p9 7 : Nat) t) ?_ (.inr ⟨_, by k_mem, rfl, _, rfl⟩) ?_); (rotate_left); (intro ys hl hy; (have hI9 := ints_map (fun d => timesTo d p9 7) ys ds9 (by rw [hl, List.size_toArray, ints_len hi9]) hy)); (rotate_left); (intro i v I oI C oC D m₂ ys h tk E' hi hP hC hx F N off ne _; obtain ⟨d9, u9, e9, hd9⟩ := nat_at hi9 hP; subst e9))
  k_with "CompEnd" => k_dflt (refine comp_end (own := []) (by assumption) (by assumption) (by assumption) (by assumption) ?_; exact ⟨_, _, hd9, rfl⟩)
  k_with "inplaceOp Add ref" => k_dflt ((k_dflt (refine' iadd_lists ?F ?N ?hb ?hne ?U ?hz ?hz2 ?_; (case F => k_asm); (case N => k_asm); (case hb => k_mem); (case U => k_upd); (case hne => (rw [hl, List.size_toArray, ints_len hi9]; exact hf9.2.2.1)); (case hz => (rw [ints_len hi9]; omega)); (case hz2 => (rw [hl, List.size_toArray, ints_len hi9]; omega)))); (intro h' F' N'); (have hJ9 := ints_app hi9 hI9); (try k_sweep))
  k_with "exec While Compare cons nil" => (k_dflt (refine' prod_while (p := p9) (c := c9) mk9 (by k_asm) (by k_asm) (by lcg_sub) hf9.1 hf9.2.1 (by assumption) ?_); (intro n8 q8 t8 h8 tk8 mk8 e81 e82 e83 d8 F8 N8))
  k_with "WhileStep2" => k_dflt (exact prod_left hm9 e81 e82 e83 (Int.ofNat_eq_zero.mp (by assumption)) (by assumption) (by assumption) (by lcg_sub) (fun _ => rfl) (by assumption))
  k_with "mine args" => (((case B => k_asm); (case F => k_asm); (case X => k_asm); (case N => k_asm); (case T => k_asm); (case hk => first | exact rfl | assumption); (case hd => walk_at "mine units"); (case hu => walk_at "mine units"); k_whole))
  k_with "mine enterC" => (k_dflt (refine' enterMC (args := ⟨_, _⟩) ?zq2B ?zq2F ?zq2X ?zq2N ?zq2T ?zq2kA ?zq2kF ?zq2kK ?zq2k6 ?zq2k7 ?zq2k8 ?zq2k9 ?zq2kB ?zq2kD ?_ ?zq2c2 ?zq2c3 ?zq2c4; (case zq2kA => exact rfl); (case zq2kF => exact rfl); (case zq2kK => assumption); (case zq2B => k_asm); (case zq2F => k_asm); (case zq2X => k_asm); (case zq2N => k_asm); (case zq2T => k_asm); (case zq2k6 => k_is); (case zq2k7 => k_is); (case zq2k8 => walk_at "mine units"); (case zq2k9 => first | exact BindsTo.of_eq rfl | exact binds_K (by k_in) rfl (by k_is) rfl rfl rfl); (case zq2kB => exact rfl); (case zq2kD => decide +kernel); (case zq2c2 => exact rfl); (case zq2c3 => exact rfl); (case zq2c4 => exact rfl); k_whole; intro g' L' h' tk' cells' hg' F' N' Y' B' X' T' l1; (try k_lt l1); k_cells Y'; (try simp only [List.cons_append, List.nil_append] at N'); (try dsimp only); (try k_fold)))
  k_with "LeaveM" => ((k_dflt (refine' leaveM_ ?zq3k1 ?zq3k2 ?_; (case zq3k1 => k_asm); (case zq3k2 => k_asm); k_whole); intro kF kN kK kO))
  k_with "execs cons" => (k_fold)
  k_with "storeName" => (dsimp only)
  k_with "newList" => (dsimp only)
  k_with "newTuple" => (dsimp only)
  k_with "truthy bool" => (dsimp only)
  k_with "spliced" => (dsimp only)
  k_with "callWith ref" => (dsimp only)
  k_with "compareOp" => (dsimp only)
  k_with "call ref" => (dsimp only)
  k_with "mine units" => (k_dflt (first | exact unit0 (by assumption) | exact unit1 (by assumption) (by exact rfl) | exact unit2 (by assumption) (by exact rfl) | exact unit3 (by assumption) (by exact rfl) | decide))
  k_with "mine and" => ((first | with_reducible assumption | (apply And.right; first | with_reducible assumption | (apply And.right; first | with_reducible assumption | (apply And.right; first | with_reducible assumption | (apply And.right; first | with_reducible assumption | (apply And.right; first | with_reducible assumption | (apply And.right; first | with_reducible assumption | (apply And.right; first | with_reducible assumption | (apply And.right; with_reducible assumption))))))))))
  k_with "mine in" => (first | (apply And.left; walk_at "mine and") | walk_at "mine and")
  k_with "mine ne" => ((try dsimp only); first | (apply Nat.ne_of_lt; walk_at "mine in") | (apply Nat.ne_of_gt; walk_at "mine in") | walk_at "mine in" | (apply Ne.symm; walk_at "mine in"))
  walk_at "mine enterC"
  k_steps
  · exact prodJ_end (by k_subL) (fun y => due_map y) hp9 hc9 (by with_reducible assumption) e83 (due_yes (by with_reducible assumption)) (ints_app hi9 hI9) (by assumption) (by assumption)
  · exact prodJ_end (by k_subL) (fun _ => rfl) hp9 hc9 (by with_reducible assumption) e83 (due_no (by with_reducible assumption)) hi9 (by assumption) (by assumption)
  · exact spec_ret hret (by assumption) (by assumption) (by assumption) (by assumption) (by assumption) ⟨_, _, _, _, rfl, by k_mem, by assumption, by rw [prodEnd_yes hc9 (by assumption)]; assumption, by assumption⟩
  · exact spec_ret hret (by assumption) (by assumption) (by assumption) (by assumption) (by assumption) ⟨_, _, _, _, rfl, by k_mem, by assumption, by rw [prodEnd_no hc9 (by assumption)]; assumption, by assumption⟩
end
section
noncomputable def TupIn (ax : Addr) (its : Array Value) (news : List (Addr × Obj)) : Prop := ∃ k, (ax, ({ cls := .type "tuple", data := .seq its k } : Obj)) ∈ news
noncomputable def TupSrc (prog : Program) (w : World) (A : Around) (h₀ : Heap) (L : Addr) (m : Str → Option Value) (env : Env) (elt : Expr) (x : Str) (scope : Scope) (cl : List (Str × Addr)) (Fin : Shared → List Value → List (Addr × Obj) → Prop) (xv : Value) (s₁ : Shared) : Prop :=
  ∃ ax its news, xv = .ref ax ∧ A.handled = none ∧ Fr h₀ L s₁.heap m ∧ News h₀ L s₁.heap news ∧ TupIn ax its news ∧ its.size ≤ sizeLine ∧
    ∀ s₂ : Shared, (∃ h, s₂ = { s₁ with heap := h }) → LCg.CompRest prog w A h₀ L m env elt x scope cl s₂ (TupIn ax its) (fun i v => its[i]? = some v) (Fin s₂) its.size 0 [] news
noncomputable def TupSrcT (prog : Program) (w : World) (A : Around) (h₀ : Heap) (L : Addr) (m : Str → Option Value) (env : Env) (ct elt : Expr) (x : Str) (scope : Scope) (cl : List (Str × Addr)) (Fin : Shared → List Value → List (Addr × Obj) → Prop) (xv : Value) (s₁ : Shared) : Prop :=
  ∃ ax its news, xv = .ref ax ∧ A.handled = none ∧ Fr h₀ L s₁.heap m ∧ News h₀ L s₁.heap news ∧ TupIn ax its news ∧ its.size ≤ sizeLine ∧
    ∀ s₂ : Shared, (∃ h, s₂ = { s₁ with heap := h }) → LCt.CompRestT prog w A h₀ L m env ct elt x scope cl s₂ (TupIn ax its) (fun i v => its[i]? = some v) (Fin s₂) its.size 0 [] news
section
variable {prog : Program} {w : World} {A : Around} {E : Value → Shared → Prop} {s : Shared} {h₀ : Heap} {L : Addr} {m : Str → Option Value} {env : Env}
theorem TupSrc.mk {elt : Expr} {x : Str} {scope : Scope} {cl : List (Str × Addr)} {Fin : Shared → List Value → List (Addr × Obj) → Prop} {ax : Addr} {its : Array Value} {k : Nat} {news : List (Addr × Obj)} {s₁ : Shared}
    (hh : A.handled = none) (F : Fr h₀ L s₁.heap m) (N : News h₀ L s₁.heap news) (hm : (ax, ({ cls := .type "tuple", data := .seq its k } : Obj)) ∈ news) (hsz : its.size ≤ sizeLine)
    (h : ∀ g, LCg.CompRest prog w A h₀ L m env elt x scope cl { s₁ with heap := g } (TupIn ax its) (fun i v => its[i]? = some v) (Fin { s₁ with heap := g }) its.size 0 [] news) :
    TupSrc prog w A h₀ L m env elt x scope cl Fin (.ref ax) s₁ := ⟨ax, its, news, rfl, hh, F, N, ⟨_, hm⟩, hsz, fun _ ⟨g, e⟩ => e ▸ h g⟩
theorem TupSrcT.mk {ct elt : Expr} {x : Str} {scope : Scope} {cl : List (Str × Addr)} {Fin : Shared → List Value → List (Addr × Obj) → Prop} {ax : Addr} {its : Array Value} {k : Nat} {news : List (Addr × Obj)} {s₁ : Shared}
    (hh : A.handled = none) (F : Fr h₀ L s₁.heap m) (N : News h₀ L s₁.heap news) (hm : (ax, ({ cls := .type "tuple", data := .seq its k } : Obj)) ∈ news) (hsz : its.size ≤ sizeLine)
    (h : ∀ g, LCt.CompRestT prog w A h₀ L m env ct elt x scope cl { s₁ with heap := g } (TupIn ax its) (fun i v => its[i]? = some v) (Fin { s₁ with heap := g }) its.size 0 [] news) :
    TupSrcT prog w A h₀ L m env ct elt x scope cl Fin (.ref ax) s₁ := ⟨ax, its, news, rfl, hh, F, N, ⟨_, hm⟩, hsz, fun _ ⟨g, e⟩ => e ▸ h g⟩
theorem tup_is {ax : Addr} {its : Array Value} {news : List (Addr × Obj)} {h : Heap} (x : TupIn ax its news) (N : News h₀ L h news) : h.IsTuple ax its := by
  obtain ⟨k, hm⟩ := x
  exact ⟨_, (N _ hm).1, rfl, k, rfl⟩
theorem tup_st {ax I : Addr} {its : Array Value} : ∀ i (h h' : Heap) (o : Obj) (nw : List (Addr × Obj)), (h.IsTupleIter I ax i ∧ h.IsTuple ax its) → h.get? I = some o → h'.get? I = some o → (∀ b o, h₀.get? b = some o → h'.get? b = some o) → News h₀ L h' nw → TupIn ax its nw → (h'.IsTupleIter I ax i ∧ h'.IsTuple ax its) :=
  fun i h h' o nw st e e' _ N S => ⟨by obtain ⟨o', q, r⟩ := st.1; rw [e] at q; cases q; exact ⟨o, e', r⟩, tup_is S N⟩
theorem tup_iter {ax : Addr} {its : Array Value} {news : List (Addr × Obj)} {Q : Value → Shared → Prop} (F : Fr h₀ L s.heap m) (N : News h₀ L s.heap news) (S : TupIn ax its news)
    (h : ∀ (I : Addr) (g : Heap), ax < I → (g.IsTupleIter I ax 0 ∧ g.IsTuple ax its) → (∀ b ∈ [I, ax], b < g.objs.size) → Fr h₀ L g m → News h₀ L g news → L ≠ I → h₀.get? I = none → (∀ p ∈ news, p.1 ≠ I) → Q (.ref I) { s with heap := g }) :
    wpAny (model prog w) A (pyIter (.ref ax)) Q E s := by
  have lt : ax < s.heap.objs.size := S.elim fun _ hm => Heap.lt_size (N _ hm).1
  have up : s.heap.objs.size < (s.heap.push { cls := .type "tuple_iterator", data := .fields #[.ref ax, .int 0 0] }).objs.size := by rw [Heap.size_push]; exact Nat.lt_succ_self _
  exact wpAny_pyIter_tuple (tup_is S N) (h _ _ lt ⟨⟨_, Heap.get?_push_size _ rfl, rfl, rfl⟩, tup_is S (N.pushKeep _)⟩ (List.forall_mem_cons.mpr ⟨up, List.forall_mem_singleton.mpr (Nat.lt_trans lt up)⟩) (F.push _) (N.pushKeep _) (Nat.ne_of_lt F.ns.lt) F.fresh N.apart)
theorem tup_out {s₂ : Shared} {D C : Addr} {h h'' : Heap} {tk : Nat} {ys : List Value} {news' : List (Addr × Obj)} {Q : Value → Shared → Prop} (F' : Fr h₀ L h m) (N' : News h₀ L h ((D, LCg.lst ys) :: news')) (o1 : LCg.Off1 D news') (hC₀ : h₀.get? C = none) (hCL : C ≠ L) (hCD : C ≠ D)
    (offC : ∀ p ∈ news', p.1 ≠ C) (fin : LCg.FinE h₀ L m s₂ Q ys news') (sb : Heap.SameBut C h h'') : Q (.ref D) { s₂ with heap := h'', toks := tk } :=
  fin D h'' tk (F'.change sb hCL hC₀) (ksk_news N' sb (List.forall_mem_cons.mpr ⟨hCD.symm, offC⟩)) o1
theorem ListComp_V {elt iter : Expr} {x : Str} {px : Pos} {scope : Scope} {cl : List (Str × Addr)} {pos : Pos} {Q : Value → Shared → Prop} (_F₀ : Fr h₀ L s.heap m)
    (hclos : closureFor scope env = pure cl) (hcell : ∀ y ∈ scope.names, y.2 ≠ .cell) (hkind : scope.kind = .function) (hnames : ∀ y ∈ scope.names, y.2 = .local → scope.names.lookup y.1 = some .local) (hx : scope.names.lookup x = some .local)
    (h : wpAny (model prog w) A (eval iter env) (TupSrc prog w A h₀ L m env elt x scope cl (fun s₂ => LCg.FinE h₀ L m s₂ Q)) E s) (hs : ∀ x, foldedSetIterable iter env x = pure x := by intro _; rfl) :
    wpAny (model prog w) A (eval (.ListComp elt [⟨.Name x px, iter, [], 0⟩] scope pos) env) Q E s := by
  rw [eval_ListComp]
  refine wpAny_comprehension_free (use := none) rfl hs hclos hkind hnames (wpAny_mono h (fun xv s₁ src => ?_) fun _ _ e => e)
  obtain ⟨ax, its, news, rfl, hh, F, N, S, hsz, R⟩ := src
  exact tup_iter F N S fun I g lt st fp F1 N1 LI I0 off => LCg.block_U (Walks.tuple hh I ax (Nat.ne_of_lt lt) its) hsz (fun _ _ st => st.1.imp fun _ e => e.1) tup_st hcell hkind hx st fp F1 N1 LI I0 off S (R _ ⟨_, rfl⟩)
    fun D C h tk m' ys news' F' N' o1 hn hC₀ _ hCL _ hCD offC fin => ⟨m', hn, fun h'' sb => tup_out F' N' o1 hC₀ hCL hCD offC fin sb⟩
theorem ListComp_VT {ct elt iter : Expr} {x : Str} {px : Pos} {scope : Scope} {cl : List (Str × Addr)} {pos : Pos} {Q : Value → Shared → Prop} (_F₀ : Fr h₀ L s.heap m)
    (hclos : closureFor scope env = pure cl) (hcell : ∀ y ∈ scope.names, y.2 ≠ .cell) (hkind : scope.kind = .function) (hnames : ∀ y ∈ scope.names, y.2 = .local → scope.names.lookup y.1 = some .local) (hx : scope.names.lookup x = some .local)
    (h : wpAny (model prog w) A (eval iter env) (TupSrcT prog w A h₀ L m env ct elt x scope cl (fun s₂ => LCg.FinE h₀ L m s₂ Q)) E s) (hs : ∀ x, foldedSetIterable iter env x = pure x := by intro _; rfl) :
    wpAny (model prog w) A (eval (.ListComp elt [⟨.Name x px, iter, [ct], 0⟩] scope pos) env) Q E s := by
  rw [eval_ListComp]
  refine wpAny_comprehension_free (use := none) rfl hs hclos hkind hnames (wpAny_mono h (fun xv s₁ src => ?_) fun _ _ e => e)
  obtain ⟨ax, its, news, rfl, hh, F, N, S, hsz, R⟩ := src
  exact tup_iter F N S fun I g lt st fp F1 N1 LI I0 off => LCt.block_T (Walks.tuple hh I ax (Nat.ne_of_lt lt) its) hsz (fun _ _ st => st.1.imp fun _ e => e.1) tup_st hcell hkind hx st fp F1 N1 LI I0 off S (R _ ⟨_, rfl⟩)
    fun D C h tk m' ys news' F' N' o1 hn hC₀ _ hCL _ hCD offC fin => ⟨m', hn, fun h'' sb => tup_out F' N' o1 hC₀ hCL hCD offC fin sb⟩
theorem comp_same {news : List (Addr × Obj)} {I C D : Addr} {oI oC oD : Obj} {S : List (Addr × Obj) → Prop} {rest : Value → List (Addr × Obj) → Prop} {y : Value} {h' : Heap} {tk : Nat} {s₁ : Shared} (F : Fr h₀ L h' m) (N : News h₀ L h' ((I, oI) :: (C, oC) :: (D, oD) :: news)) (off : LCg.Off3 I C D news) (hS : S news) (r : rest y news) :
    LCg.CompEnd h₀ L m s₁ I oI C oC D oD S rest y { s₁ with heap := h', toks := tk } := ⟨h', tk, news, rfl, F, N, off, hS, r⟩
end
end
section
structure Stand (A₀ : Around) (base g₀ g : Heap) (outer : List Env) (W : Addr) (oW : Obj) : Prop where
  below : Below A₀ base outer g₀
  fr : outer.filterMap (·.frame) = [W]
  here : g₀.get? W = some oW
  dict : ∃ es n, oW.data = .dict es n
  eq : g = hideAll g₀ [W]
section
variable {A₀ : Around} {base g₀ g G h : Heap} {outer : List Env} {W L : Addr} {oW : Obj} {m : Str → Option Value} {news : List (Addr × Obj)} {sl : Array (Option Value)}
theorem Stand.ne (S : Stand A₀ base g₀ g outer W oW) {b : Addr} {o : Obj} (e : g.get? b = some o) : b ≠ W := fun q => by
  have := hideAll_none [W] (h := g₀) (b := b) (by rw [q]; exact .head _)
  rw [← S.eq, e] at this; cases this
theorem Stand.up (S : Stand A₀ base g₀ g outer W oW) {b : Addr} {o : Obj} (e : g.get? b = some o) : g₀.get? b = some o := of_hideAll [W] (by rw [← S.eq]; exact e)
theorem Stand.down (S : Stand A₀ base g₀ g outer W oW) {b : Addr} {o : Obj} (e : g₀.get? b = some o) (n : b ≠ W) : g.get? b = some o := by
  rw [S.eq]; exact hideAll_get _ e fun q => n (List.mem_singleton.mp q)
theorem Stand.size (S : Stand A₀ base g₀ g outer W oW) : g.objs.size = g₀.objs.size := by rw [S.eq]; exact hideAll_size _ _
theorem Stand.dicts (S : Stand A₀ base g₀ g outer W oW) : KtsDicts (outer.filterMap (·.frame)) g₀ := fun b hb => by
  rw [S.fr, List.mem_singleton] at hb
  obtain ⟨es, n, hd⟩ := S.dict
  exact ⟨oW, es, n, by rw [hb]; exact S.here, hd⟩
theorem below_turn (B : Below A₀ base outer g₀) (T : KtsTurn (outer.filterMap (·.frame)) g₀ G) : Below A₀ base outer G :=
  ⟨B.stack, fun b o e => T.other b o (B.stays b o e) (fun hm => by rw [(B.frames.mem hm).1] at e; cases e), B.frames.of_keeps fun b o e _ => by
    obtain ⟨sl, hs⟩ := T.up e
    exact ⟨_, hs, rfl⟩⟩
theorem Stand.ground (S : Stand A₀ base g₀ g outer W oW) (F : Fr g L h m) (N : News g L h news) (hm : (W, ({ oW with slots := sl } : Obj)) ∈ news) : ∃ G, KtsTurn (outer.filterMap (·.frame)) g₀ G ∧ Fr G L h m ∧ Below A₀ base outer G := by
  obtain ⟨T, k⟩ := kts_turn_at (h := h) (fs := outer.filterMap (·.frame)) (g := g₀)
    (fun b hb => by rw [S.fr, List.mem_singleton] at hb; exact ⟨oW, by rw [hb]; exact S.here⟩)
    (fun b o e nm => F.keep b o (S.down e fun q => nm (by rw [S.fr, q]; exact .head _)))
    (fun b o e hb => by
      rw [S.fr, List.mem_singleton] at hb
      rw [hb, S.here] at e
      cases e
      rw [hb]
      exact ⟨sl, (N _ hm).1⟩)
  exact ⟨_, T, ⟨F.ns, k, by rw [T.size, ← S.size]; exact F.above⟩, below_turn S.below T⟩
theorem Stand.to (S : Stand A₀ base g₀ g outer W oW) (T : KtsTurn (outer.filterMap (·.frame)) g₀ G) {b : Addr} {o : Obj} (e : g.get? b = some o) : G.get? b = some o :=
  T.other b o (S.up e) fun hm => S.ne e (by rw [S.fr, List.mem_singleton] at hm; exact hm)
theorem Stand.none (S : Stand A₀ base g₀ g outer W oW) (T : KtsTurn (outer.filterMap (·.frame)) g₀ G) {b : Addr} (n : b ≠ W) (e : g.get? b = none) : G.get? b = none :=
  T.none_ b (by
    cases q : g₀.get? b with
    | none => rfl
    | some o => rw [S.down q n] at e; cases e)
theorem Stand.back (S : Stand A₀ base g₀ g outer W oW) (T : KtsTurn (outer.filterMap (·.frame)) g₀ G) (F : Fr G L h m) : Fr g L h m :=
  ⟨F.ns, fun _ _ e => F.keep _ _ (S.to T e), by rw [S.size, ← T.size]; exact F.above⟩
theorem Stand.backN (S : Stand A₀ base g₀ g outer W oW) (T : KtsTurn (outer.filterMap (·.frame)) g₀ G) (N : News G L h news) : News g L h news := fun p hp => ⟨(N p hp).1, (N p hp).2.1, by
  cases q : g.get? p.1 with
  | none => rfl
  | some o => have := S.to T q; rw [(N p hp).2.2] at this; cases this⟩
theorem Stand.there (S : Stand A₀ base g₀ g outer W oW) (T : KtsTurn (outer.filterMap (·.frame)) g₀ G) (F : Fr G L h m) : ∃ sl, News g L h [(W, ({ oW with slots := sl } : Obj))] := by
  obtain ⟨sl, hs⟩ := T.frame W oW S.here (by rw [S.fr]; exact .head _)
  refine ⟨sl, fun p hp => ?_⟩
  rw [List.mem_singleton] at hp
  subst hp
  refine ⟨F.keep _ _ hs, fun q => ?_, ?_⟩
  · have := kts_self F
    rw [← show W = L from q, hs] at this; cases this
  · rw [S.eq]; exact hideAll_none _ (.head _)
end
noncomputable def FlyL (A₀ : Around) (base g₀ : Heap) (outer : List Env) (env : Env) (L : Addr) (m : Str → Option Value) (rest : List (Addr × Obj)) (e t : Addr) (cls : Value) (vs : List Value) (h' : Heap) : Prop :=
  ∃ G Gx, KtsTurn (outer.filterMap (·.frame)) g₀ G ∧ Fr G L Gx m ∧ Below A₀ base outer G ∧ RaisedS base Gx (env :: outer) e cls t vs rest h' ∧ Gx.UpToSlots h'
section
variable {A₀ : Around} {base g G B h₅ : Heap} {outer : List Env} {L a : Addr} {m : Str → Option Value} {name : Str} {scope : Scope} {cd : Value} {cl : List (Str × Addr)}
theorem groundL (K : Below A₀ base outer g) (F : Fr g L G m) (hBG : ∀ b o, G.get? b = some o → b ∉ (envX name scope L a cd cl :: outer).filterMap (·.frame) → B.get? b = some o) (hBh : B.StaysIn h₅) (hsm : G.UpToSlots h₅) :
    ∃ g', KtsTurn (outer.filterMap (·.frame)) g g' ∧ Fr g' L h₅ m := (kts_ground (name := name) (scope := scope) (a := a) (cd := cd) K F hBG hBh hsm).imp fun _ x => ⟨x.1, x.2.1⟩
theorem free_turn {b : Addr} {g₆ h₆ : Heap} {o₆ : Obj} (D : KtsDicts (outer.filterMap (·.frame)) g) (T : KtsTurn (outer.filterMap (·.frame)) g g₆) (F : Fr g L G m) (hBG : ∀ b o, G.get? b = some o → b ∉ (envX name scope L a cd cl :: outer).filterMap (·.frame) → B.get? b = some o)
    (hb : B.get? b = none) (hsm : G.UpToSlots h₆) (h6 : h₆.get? b = some o₆) (hd : ∀ es n, o₆.data ≠ .dict es n) : g₆.get? b = none :=
  T.none_ _ (kts_fresh (name := name) (scope := scope) (a := a) (cd := cd) F hBG hb fun o e m => by
    obtain ⟨o', es, n, e', d'⟩ := D _ m
    cases e.symm.trans e'
    obtain ⟨sl, hs⟩ := hsm _ _ (F.keep _ _ e) fun vs q => by cases d'.symm.trans q
    cases h6.symm.trans hs
    exact hd es n d')
end
section
variable {prog : Program} {w : World} {A A₀ : Around} {E : Value → Shared → Prop} {s' : Shared} {base g₀ g : Heap} {outer : List Env} {L a e t C W : Addr} {oW : Obj} {m : Str → Option Value} {name : Str} {scope : Scope} {cd : Value} {cl : List (Str × Addr)}
  {vs : List Value} {n : Str} {b₀ : Stmt} {suite : List Stmt} {pos np : Pos} {rest : List ExceptHandler} {Q : Flow → Shared → Prop} {news : List (Addr × Obj)} {KF : Frag}
  {p : Program} {loose : List Str} {mean : ExcName → Option Value} {mg mb : Str → Option Value} {x : Str} {bmB : List Value} {newId : String}
theorem caught_L (R : FlyL A₀ base g₀ outer (envX name scope L a cd cl) L m news e t (.ref C) vs s'.heap) (S : Stand A₀ base g₀ g outer W oW) (hA : A.frames = some (envX name scope L a cd cl :: outer)) (XB : KF.In base) (TB : Top p loose mean mg mb base)
    (ex : nsIn KF mainGlobals x = some (some (.ref C))) (q : excIn KF C bmB newId = true) (hbase : bmB.contains (.type "BaseException") = true)
    (k : ∀ h' sl oe ot ws nt tk, Fr g L h' (fun y => if y = n then some (.ref e) else m y) → News g L h' ((e, oe) :: (t, ot) :: (W, { oW with slots := sl }) :: news) →
      oe.cls = .ref C → oe.data = .fields ws → ws[0]? = some (.ref t) → ot.cls = .type "tuple" → ot.data = .seq vs.toArray nt →
      wpAny (model prog w) (A.mark (some (.ref e))) (execs (b₀ :: suite) (envX name scope L a cd cl))
        (fun f s₄ => wpAny (model prog w) A (do bindName (envX name scope L a cd cl) n .none; unbindBehindTheSuite (envX name scope L a cd cl) n pos) (fun _ s₅ => Q f s₅) E s₄)
        (AsSuiteRaised (model prog w) (A.mark (some (.ref e))) (envX name scope L a cd cl) n pos (notedBy (model prog w) (A.mark (some (.ref e))) (envX name scope L a cd cl) (cameBackBy (model prog w) A (envX name scope L a cd cl) E)))
        { s' with heap := h', toks := tk })
    (hk : scope.kind = .function := by rfl) (hlo : (envX name scope L a cd cl).kindOf n = some .local := by rfl) (hx : (envX name scope L a cd cl).kindOf x = some .globalImplicit := by rfl) (hd : (x == ("__debug__" : Str)) = false := by decide) :
    wpAny (model prog w) A (noteFrame (.ref e) (envX name scope L a cd cl))
      (fun _ s₂ => wpAny (model prog w) A (setFlight (.ref e) none) (fun _ s₃ =>
        wpAny (model prog w) A (handleBy (.ref e) (envX name scope L a cd cl) (.ExceptHandler (some (.Name x np)) (some n) (b₀ :: suite) pos :: rest)) Q E s₃) E s₂) E s' := by
  refine shut fun X0 hX => ?_
  obtain ⟨G, Gx, T, F, K, ⟨⟨B, hB, hBG, hl, hfl, hnew⟩, htup⟩, hsm⟩ := R
  refine hX ?_
  clear hX X0
  have hL : B.get? L = none := by
    obtain ⟨_, ⟨L', _, hf, hn', _⟩, _⟩ := hfl.2.2.1
    obtain rfl : L = L' := Option.some.inj hf
    exact hn'
  refine wpAny_looks_onW hA rfl hfl fun h₄ hheld₄ hsm₄ => ?_
  refine wpAny_landsW hheld₄ fun h₅ hheld hsm₅' => ?_
  have hsm₅ := hsm₄.trans hsm₅'
  refine shut fun X0 hX => ?_
  obtain ⟨g₅, T₅, F₅⟩ := groundL K F hBG hheld.1 (hsm.trans hsm₅)
  have K₅ := below_turn K T₅
  obtain ⟨ob, hob, hobc⟩ := hheld.there
  have X₅ : KF.In g₅ := XB.keeps K₅.stays
  have P₅ : TopRead p loose mg mb g₅ := topRead_of (TB.keeps K₅.stays)
  refine hX ?_
  clear hX X0
  refine wpAny_handleBy_cons (codeAny_handlers_test (nameX_K F₅ X₅ P₅ ex ?_ hk hx hd)) (by intro q; cases q)
  refine shut fun X0 hX => ?_
  obtain ⟨bm, N, nm, qn, bs, hdct, sn, sub, ab, col, dd, k0, k1, k2, k3, k5, mN, hC, hN, hni, TL⟩ := ((own_of_in X₅ P₅ ex q).keeps F₅.keep).obj
  refine hX ?_
  clear hX X0
  refine wpAny_excMatches_sub_self hC hob hobc (TL.hasType hbase) (codeAny_handlers_suite_as ?_)
  refine lands_againW hheld fun h₆ hfl₆ hsm₆ => ?_
  refine shut fun X0 hX => ?_
  obtain ⟨g₆, T₆, F₆⟩ := groundL K F hBG hfl₆.1 ((hsm.trans hsm₅).trans hsm₆)
  have T₆' := T.trans T₆
  obtain ⟨oe, ws, hoe, hoec, hoed, hoe0⟩ := hfl₆.first
  obtain ⟨ot, nt, hot, hotc, hotd⟩ := (htup.of_slots hsm₅).of_slots hsm₆
  have sm := (hsm.trans hsm₅).trans hsm₆
  have D := S.dicts.turn T
  have de : ∀ es n, oe.data ≠ .dict es n := fun es n q => by cases hoed.symm.trans q
  have dt : ∀ es n, ot.data ≠ .dict es n := fun es n q => by cases hotd.symm.trans q
  have N₆ := News.more F₆ (News.more F₆ News.nil hot dt (free_turn D T₆ F hBG hnew sm hot dt)) hoe de (free_turn D T₆ F hBG hfl₆.2.1 sm hoe de)
  have Nl : News g₆ L h₆ news := fun q hq => ⟨hfl₆.1 _ _ (hl q hq).1, (fun z => by have := (hl q hq).1; rw [z, hL] at this; cases this), T₆.none_ _ (kts_none F.keep (hl q hq).2.1)⟩
  obtain ⟨sl, NW⟩ := S.there T₆' F₆
  have N₆' : News g L h₆ ((e, oe) :: (t, ot) :: (W, { oW with slots := sl }) :: news) := fun q hq => by
    rcases List.mem_cons.mp hq with rfl | hq
    · exact S.backN T₆' N₆ _ (.head _)
    rcases List.mem_cons.mp hq with rfl | hq
    · exact S.backN T₆' N₆ _ (.tail _ (.head _))
    rcases List.mem_cons.mp hq with rfl | hq
    · exact NW _ (.head _)
    · exact S.backN T₆' Nl _ hq
  refine hX ?_
  refine storeX_L (S.back T₆' F₆) N₆' (fun h₇ F₇ N₇ => ?_) hk hlo
  exact k h₇ sl oe ot ws nt _ F₇ N₇ hoec hoed hoe0 hotc hotd
end
end
section
noncomputable def RaiseK (b : Nat) (w : World) (f : Addr) (vs : List Value) (C : Addr) (v : Value) : Prop :=
  ∀ (p : Program) (loose : List Str) (mean : ExcName → Option Value) (mg mb : Str → Option Value) (dp un : Nat) (gd : Option (List Code)) (cn : Str) (cs : Scope) (a : Addr) (ccd : Value) (cl : List (Str × Addr)) (outer : List Env) (A₀ : Around) (base h₀ : Heap) (L : Addr) (m : Str → Option Value) (s : Shared) (news : List (Addr × Obj)) (Q E : Value → Shared → Prop),
    Below A₀ base outer h₀ → Fr h₀ L s.heap m → (hd.heap_39 w.params).In h₀ → News h₀ L s.heap news → Top p loose mean mg mb h₀ → cs.kind = .function → dp + b < recursionLimit → un + 16 * b < cLine →
    (∀ (e t : Addr) (h' Gx : Heap) (tk' : Nat), Fr h₀ L Gx m → RaisedS base Gx (envX cn cs L a ccd cl :: outer) e (.ref C) t [v] news h' → Gx.UpToSlots h' → E (.ref e) { s with heap := h', toks := tk' }) →
    wpAny (model PySem.Challenge.rw_ux0013_01.row.prog w) (ktrTop dp un gd cn cs L a ccd cl outer) (call (.ref f) vs) Q E s
theorem parse_raise (w : World) (c1 c2 c3 : Nat) (r : List Nat) (t1 : Tok) (h1 : r.length < 2 ^ 20) (hne : (ofL [c1, c2, c3] != Str.ofString "257") = true) :
    RaiseK 4 w 46 [.str (ofL (c1 :: c2 :: c3 :: r)) t1] 37 (.str (ofL (c1 :: c2 :: c3 :: r)) t1) := by
  unfold RaiseK
  k_fill
  intro p loose mean mg mb dp un gd cn cs a ccd cl outer A₀ base h₀ L m s news Q E B F X N T hk hdp hun hret
  w_on
  k_with_none
  have kd : KtsDicts [] h₀ := ktsDicts_nil
  have FG : Fr h₀ L (sans s.heap news) m := (groundX (A := ktrTop dp un gd cn cs L a ccd cl outer) (R := fun _ _ => True) B F N rfl rfl hk).1
  k_with "mine enter" => (k_dflt (refine' enterM (args := ⟨_, _⟩) ?zq1B ?zq1F ?zq1X ?zq1N ?zq1T ?zq1kA ?zq1kF ?zq1kK ?zq1k6 ?zq1k7 ?zq1k8 ?zq1k9 ?zq1kB ?_ ?zq1c2 ?zq1c3 ?zq1c4 ?zq1c5; (case zq1kA => exact rfl); (case zq1kF => exact rfl); (case zq1kK => assumption); (case zq1B => k_asm); (case zq1F => k_asm); (case zq1X => k_asm); (case zq1N => k_asm); (case zq1T => k_asm); (case zq1k6 => k_is); (case zq1k7 => k_is); (case zq1k8 => walk_at "mine units"); (case zq1k9 => first | exact BindsTo.of_eq rfl | exact binds_K (by k_in) rfl (by k_is) rfl rfl rfl); (case zq1c5 => decide); (case zq1kB => exact locs rfl); (case zq1c2 => exact rfl); (case zq1c3 => exact rfl); (case zq1c4 => exact rfl); k_whole; intro g' L' h' hg' F' N' B' X' T'; (try dsimp only); (try k_fold)))
  k_with "LeaveM" => ((k_dflt (refine' leaveM_ ?zq3k1 ?zq3k2 ?_; (case zq3k1 => k_asm); (case zq3k2 => k_asm); k_whole); intro kF kN kK kO))
  k_with "execs cons" => (k_fold)
  k_with "storeName" => (dsimp only)
  k_with "newList" => (dsimp only)
  k_with "newTuple" => (dsimp only)
  k_with "truthy bool" => (dsimp only)
  k_with "spliced" => (dsimp only)
  k_with "callWith ref" => (dsimp only)
  k_with "compareOp" => (dsimp only)
  k_with "call ref" => (dsimp only)
  k_with "mine units" => (k_dflt (first | exact unit0 (by assumption) | exact unit1 (by assumption) (by exact rfl) | exact unit2 (by assumption) (by exact rfl) | exact unit3 (by assumption) (by exact rfl) | decide))
  k_with "mine and" => ((first | with_reducible assumption | (apply And.right; first | with_reducible assumption | (apply And.right; first | with_reducible assumption | (apply And.right; first | with_reducible assumption | (apply And.right; first | with_reducible assumption | (apply And.right; first | with_reducible assumption | (apply And.right; first | with_reducible assumption | (apply And.right; first | with_reducible assumption | (apply And.right; with_reducible assumption))))))))))
  k_with "mine in" => (first | (apply And.left; walk_at "mine and") | walk_at "mine and")
  k_with "mine ne" => ((try dsimp only); first | (apply Nat.ne_of_lt; walk_at "mine in") | (apply Nat.ne_of_gt; walk_at "mine in") | walk_at "mine in" | (apply Ne.symm; walk_at "mine in"))
  k_with "subscriptTail Name Slice str ref" => ((k_here; (with_reducible rename Fr _ _ _ _ => F'); (with_reducible rename News _ _ _ _ => N'); (with_reducible show wpAny _ _ (subscriptTail _ (Expr.Slice none (some _) none _) _ _) _ _ _); k_dflt (refine slice_strN_ns (hsz := ?zq41hsz) (s := ⟨_, _, _, _, _⟩) F' N' ?_); (case zq41hsz => exact size_ofL (by simp only [List.length_cons]; omega)); intro _ _ _ _ _; rw [slice_three]))
  walk_at "mine enter"
  (rename _ = sans _ _ => hg)
  k_steps
  rw [← hg] at FG
  exact hret _ _ _ _ _ FG (by assumption) (by assumption)
section
variable {w : World} {A₀ : Around} {base g₀ g : Heap} {outer : List Env} {W : Addr} {oW : Obj} {p : Program} {loose : List Str} {mean : ExcName → Option Value} {mg mb : Str → Option Value} {dp un : Nat} {gd : Option (List Code)} {cn : Str} {cs : Scope} {L a : Addr} {ccd : Value} {cl : List (Str × Addr)} {m : Str → Option Value} {s : Shared} {news rest : List (Addr × Obj)} {sl : Array (Option Value)} {Q E : Value → Shared → Prop}
theorem raise_led {b : Nat} {f C : Addr} {vs : List Value} {v : Value} (R : RaiseK b w f vs C v) (S : Stand A₀ base g₀ g outer W oW) (F : Fr g L s.heap m) (X : (hd.heap_39 w.params).In g) (N : News g L s.heap news) (T : Top p loose mean mg mb g)
    (hm : (W, ({ oW with slots := sl } : Obj)) ∈ news) (hr : ∀ q ∈ rest, q ∈ news ∧ q.1 ≠ W) (hk : cs.kind = .function) (hdp : dp + b < recursionLimit) (hun : un + 16 * b < cLine)
    (h : ∀ (e t : Addr) (h' : Heap) (tk' : Nat), FlyL A₀ base g₀ outer (envX cn cs L a ccd cl) L m rest e t (.ref C) [v] h' → E (.ref e) { s with heap := h', toks := tk' }) :
    wpAny (model PySem.Challenge.rw_ux0013_01.row.prog w) (ktrTop dp un gd cn cs L a ccd cl outer) (call (.ref f) vs) Q E s := by
  obtain ⟨G, TG, FG, BG⟩ := S.ground F N hm
  refine R p loose mean mg mb dp un gd cn cs a ccd cl outer A₀ base G L m s rest Q E BG FG (fun _ _ e => S.to TG (X _ _ e)) (fun q hq => ?_) (T.keeps fun _ _ e => S.to TG e) hk hdp hun fun e t h' Gx tk' FX RS U => h e t h' tk' ⟨G, Gx, TG, FX, BG, RS, U⟩
  have := N q (hr q hq).1
  exact ⟨this.1, this.2.1, S.none TG (hr q hq).2 this.2.2⟩
theorem spec_led {b : Nat} {f : Addr} {vs : List Value} {kw : List (Str × Value)} {P : Heap → Prop} {R : Value → List (Addr × Obj) → Prop} (H : SpecK b w f vs kw P [] R) (S : Stand A₀ base g₀ g outer W oW) (F : Fr g L s.heap m) (X : (hd.heap_39 w.params).In g) (N : News g L s.heap news) (T : Top p loose mean mg mb g)
    (hm : (W, ({ oW with slots := sl } : Obj)) ∈ news) (hk : cs.kind = .function) (hdp : dp + b < recursionLimit) (hun : un + 16 * b < cLine) (hp : P s.heap)
    (h : ∀ (r : Value) (nx : List (Addr × Obj)) (h' : Heap) (tk' : Nat), Fr g L h' m → News g L h' news → R r nx → Q r { s with heap := h', toks := tk' }) :
    wpAny (model PySem.Challenge.rw_ux0013_01.row.prog w) (ktrTop dp un gd cn cs L a ccd cl outer) (call (.ref f) vs kw) Q E s := by
  obtain ⟨G, TG, FG, BG⟩ := S.ground F N hm
  refine H p loose mean mg mb dp un gd cn cs a ccd cl outer A₀ base G L m s Q E BG FG (fun _ _ e => S.to TG (X _ _ e)) News.nil hp (T.keeps fun _ _ e => S.to TG e) hk hdp hun fun r nx h' tk' F' _ K' _ hR => h r nx h' tk' (S.back TG F') (fun q hq => ⟨K' _ _ (N q hq).1, (N q hq).2⟩) hR
theorem spec_ledv {b : Nat} {f : Addr} {vs : List Value} {kw : List (Str × Value)} {P : Heap → Prop} {fv : Tok → Value} (H : SpecK b w f vs kw P [] (fun r _ => ∃ t, r = fv t)) (S : Stand A₀ base g₀ g outer W oW) (F : Fr g L s.heap m) (X : (hd.heap_39 w.params).In g) (N : News g L s.heap news) (T : Top p loose mean mg mb g)
    (hm : (W, ({ oW with slots := sl } : Obj)) ∈ news) (hk : cs.kind = .function) (hdp : dp + b < recursionLimit) (hun : un + 16 * b < cLine) (hp : P s.heap)
    (h : ∀ (t : Tok) (h' : Heap) (tk' : Nat), Fr g L h' m → News g L h' news → Q (fv t) { s with heap := h', toks := tk' }) :
    wpAny (model PySem.Challenge.rw_ux0013_01.row.prog w) (ktrTop dp un gd cn cs L a ccd cl outer) (call (.ref f) vs kw) Q E s :=
  spec_led H S F X N T hm hk hdp hun hp fun r nx h' tk' F' N' hR => by obtain ⟨t, rfl⟩ := hR; exact h t h' tk' F' N'
end
end
section
section
variable {prog : Program} {w : World} {A : Around} {E : Value → Shared → Prop} {s : Shared} {K : Frag} {C e t : Addr} {oe ot : Obj} {ws : Array Value} {nt : Nat} {msg : Str} {u : Tok}
theorem exc_type {M : Model} {h : Heap} (he : h.get? e = some oe) (hc : oe.cls = .ref C) : Looks M h (typeOf (.ref e)) (.ref C) := hc ▸ (Looks.ld he).andThen .now
open Builtin Builtin.Str Builtin.BaseException in
theorem excStr_entry {Q : Fin → Shared → Prop} (he : s.heap.get? e = some oe) (hd : oe.data = .fields ws) (h0 : ws[0]? = some (.ref t)) (ht : s.heap.get? t = some ot) (htd : ot.data = .seq [Value.str msg u].toArray nt) (hq : Q (.done (.ret (.str msg u))) s) :
    wpAny (model prog w) A (Builtin.«BaseException.__str__» ⟨[.ref e], []⟩) Q E s := by
  have key : ∀ {Q : Value × List Value → Shared → Prop}, Q (.ref t, [.str msg u]) s → wpAny (model prog w) A (bexcArgs (.ref e)) Q E s := fun hq => by
    unfold bexcArgs
    refine wpAny_bind (wpAny_field he hd h0 (wpAny_bind (wpAny_seqItems ht htd ?_)))
    exact wpAny_pure hq
  unfold Builtin.«BaseException.__str__»
  repeat (first | with_reducible refine key ?_ | wp_step)
  exact hq
open Builtin Builtin.Str in
theorem excStr_call {Q : Value → Shared → Prop} (X : K.In s.heap) (he : s.heap.get? e = some oe) (hc : oe.cls = .ref C) (hm : mroIn K C (.type "BaseException") = some true) (hd : oe.data = .fields ws) (h0 : ws[0]? = some (.ref t)) (ht : s.heap.get? t = some ot) (htd : ot.data = .seq [Value.str msg u].toArray nt) (hq : Q (.str msg u) s) :
    wpAny (model prog w) A (call (.builtin "BaseException.__str__") [.ref e]) Q E s := by
  refine wpAny_call (codeAny_call_builtin PySem.F.excStr_Exception.str.plain PySem.F.entry_bexc_str (check_slot (i := "BaseException.__str__") (owner := "BaseException") (n := "__str__") (by decide +kernel) (by decide +kernel) ((exc_type he hc).andThen (looks_mroIn X hm)) (PySem.F.args_bexc_str _) ?_))
  exact excStr_entry he hd h0 ht htd hq
open Builtin Builtin.Str in
theorem excStr_of {Q : Value → Shared → Prop} (hu : A.units < cLine) (X : K.In s.heap) (he : s.heap.get? e = some oe) (hc : oe.cls = .ref C) (hs : findIn K (.ref C) "__str__" = some (some (.builtin "BaseException.__str__"))) (hm : mroIn K C (.type "BaseException") = some true)
    (hd : oe.data = .fields ws) (h0 : ws[0]? = some (.ref t)) (ht : s.heap.get? t = some ot) (htd : ot.data = .seq [Value.str msg u].toArray nt) (hq : Q (.str msg u) s) : wpAny (model prog w) A (PySem.Builtin.Str.strOf (.ref e)) Q E s := by
  unfold PySem.Builtin.Str.strOf
  rw [show isExactStr (.ref e) = false from rfl]
  refine wpAny_bind (m := cRoomFor _ _) (wpAny_cRoomFor hu ?_)
  refine wpAny_bind (m := callSpecial? (.ref e) (Str.ofString "__str__")) ?_
  exact wpAny_bind (wpAny_bind ((exc_type he hc).here ((looks_findIn X hs).here (wpAny_holding (wpAny_bind ((Looks.of_pure (PySem.F.excStr_Exception.str.bind _)).here (wpAny_bind (excStr_call X he hc hm hd h0 ht htd (wpAny_pure (wpAny_pure hq))))))))))
open Builtin Builtin.Str in
theorem excStr_str {Q : Value → Shared → Prop} (hu : A.in1.in1.units < cLine) (X : K.In s.heap) (he : s.heap.get? e = some oe) (hc : oe.cls = .ref C) (hs : findIn K (.ref C) "__str__" = some (some (.builtin "BaseException.__str__"))) (hm : mroIn K C (.type "BaseException") = some true)
    (hd : oe.data = .fields ws) (h0 : ws[0]? = some (.ref t)) (ht : s.heap.get? t = some ot) (htd : ot.data = .seq [Value.str msg u].toArray nt) (hq : Q (.str msg u) s) : wpAny (model prog w) A (call (.type "str") [.ref e]) Q E s := by
  refine callType_codes (T := "str") (Bi := Builtin.«object.__init__») (Q₁ := fun r s₁ => r = .str msg u ∧ Q r s₁) PySem.F.called_str (PySem.F.typeCall_str_1 _) PySem.F.entry_object_init ?_ ?_
  · refine codeAny_of_tree ?_
    show wpAny _ A.in1.in1 (do checkBuiltinCall "str.__new__" ⟨[.type "str", .ref e], []⟩; again (.builtin "str.__new__" ⟨[.type "str", .ref e], []⟩)) _ _ s
    refine wpAny_bind (wpAny_of_eq (PySem.F.newCall_str_1 _) (wpAny_pure ⟨plainId_quiet (by decide +kernel) _, codeAny_builtin PySem.F.entry_str_new ?_⟩))
    rw [Around.under_plainId (by decide +kernel) _]
    rw [str_new_tree]
    refine wpAny_bind (wpAny_pure ?_)
    refine wpAny_bind (wpAny_of_eq isSubtype_str_str ?_)
    exact wpAny_bind (excStr_of hu X he hc hs hm hd h0 ht htd (wpAny_pure ⟨rfl, hq⟩))
  · rintro obj s₁ ⟨rfl, hq⟩
    exact ⟨typeIs_str _ _ _, PySem.F.args_object_init_2 _ _, object_init_meets PySem.F.called_str.init.lookup PySem.F.called_str.made (by decide) prog w A.in1 _ s₁ ⟨typeIs_str _ _ _, rfl, hq⟩⟩
end
end
section
inductive Drop (d : Addr) (o : Obj) : List (Addr × Obj) → List (Addr × Obj) → Prop
  | head {r} : (∀ p ∈ r, p.1 ≠ d) → Drop d o ((d, o) :: r) r
  | tail {p r r'} : p.1 ≠ d → Drop d o r r' → Drop d o (p :: r) (p :: r')
theorem Drop.mem {d : Addr} {o : Obj} : ∀ {l r : List (Addr × Obj)}, Drop d o l r → (d, o) ∈ l
  | _, _, .head _ => .head _
  | _, _, .tail _ x => .tail _ x.mem
theorem Drop.sub {d : Addr} {o : Obj} : ∀ {l r : List (Addr × Obj)}, Drop d o l r → ∀ q ∈ r, q ∈ l ∧ q.1 ≠ d
  | _, _, .head h => fun q hq => ⟨.tail _ hq, h q hq⟩
  | _, _, .tail h x => fun q hq => by
    rcases List.mem_cons.mp hq with rfl | hq
    · exact ⟨.head _, h⟩
    · exact ⟨.tail _ (x.sub q hq).1, (x.sub q hq).2⟩
section
variable {prog : Program} {w : World} {A A₀ : Around} {s : Shared} {K : Frag} {L : Addr} {h₀ : Heap} {m mg mb : Str → Option Value} {news : List (Addr × Obj)} {p : Program} {loose : List Str} {mean : ExcName → Option Value}
  {env : Env} {Q E : Value → Shared → Prop} {name qual : Str} {params : Arguments} {body : List Stmt} {scope : Scope} {dV kV doc pm cdv ct oc : Value} {an od : Option Addr} {osl : Array (Option Value)} {f : Addr} {args : Args} {binds : List (Str × Value)}
theorem enterG (B : Below A₀ h₀ [] h₀) (F : Fr h₀ L s.heap m) (X₀ : K.In h₀) (N : News h₀ L s.heap news) (T : Top p loose mean mg mb h₀) (hA : A.frames = some [env]) (hf : env.frame = some L) (hke : env.scope.kind = .function)
    (ho : K.lookup f = some ⟨oc, od, .func (fnOf name qual params body scope dV kV doc pm an cdv ct), osl⟩) (hcd : codeIn K cdv qual = true) (hroom : A.depth < recursionLimit)
    (hbind : BindsTo s (fnOf name qual params body scope dV kV doc pm an cdv ct) args binds) (hkind : (binds.all fun y => scope.names.lookup y.1 == some .local || scope.names.lookup y.1 == some .cell) = true)
    (hnd : ((cellsFrom 0 scope.names []).map (·.1)).Nodup)
    (h : ∀ g₀ g oW L' h₁ tk cells, Stand A h₀ g₀ g [env] L oW → Fr g L' h₁ (bindL (envOfC qual scope L' f cdv).kindOf binds fun _ => none) → News g L' h₁ (cells ++ [(L, { oW with slots := oW.slots })]) →
      CellsAre (bindC (envOfC qual scope L' f cdv).kindOf binds fun _ => none) (cellsFrom (L' + 1) scope.names []) cells → K.In g → Top p loose mean mg mb g → @LT.lt Nat _ L L' →
      (∀ h' sl, (∀ b o, g.get? b = some o → h'.get? b = some o) → h'.get? L = some { oW with slots := sl } → Fr h₀ L h' m ∧ News h₀ L h' news) →
      wpAny (model prog w) (A.deeper (envOfC qual scope L' f cdv)) (execs body (envOfC qual scope L' f cdv))
        (fun fl s' => Q (match fl with | .ret v => v | _ => .none) s')
        (fun e s' => wpAny (model prog w) (A.deeper (envOfC qual scope L' f cdv)) («leaving» (envOfC qual scope L' f cdv) e) (fun _ s'' => E e s'') (fun e' s'' => E e' s'') s')
        { s with heap := h₁, toks := tk })
    (hco : scope.isCoroutine = false) (hgen : scope.isGenerator = false) (hk : scope.kind = .function) : wpAny (model prog w) A (call (.ref f) args.pos args.kw) Q E s := by
  obtain ⟨_, BG, st, _⟩ := groundX (R := fun _ _ => True) B F (News.nil (h₀ := h₀) (L := L) (h := s.heap)) hA hf hke
  obtain ⟨oW, es, ep, hL, hLd, hLk, hLf⟩ := F.ns
  refine wpAny_call (codeAny_call_function (fd := fnOf name qual params body scope dV kV doc pm an cdv ct) (body := body) hroom ((X₀.keeps F.keep) _ _ ho) rfl hco hgen rfl (codeRec_of (X₀.keeps F.keep) hcd) (hbind _ _ _ _ ?_))
  refine wpAny_newFunctionEnv_cells hk (kindsX hkind _) fun env' he s' x => ?_
  subst he
  have S : Stand A h₀ (hideAll s.heap (([] : List (Addr × Obj)).map (·.1))) (hideAll (hideAll s.heap (([] : List (Addr × Obj)).map (·.1))) [L]) [env] L oW :=
    ⟨BG, by simp [hf], hL, ⟨es, ep, hLd⟩, rfl⟩
  have nL : h₀.get? L = none := kts_self F
  have kg : ∀ b o, h₀.get? b = some o → (hideAll (hideAll s.heap (([] : List (Addr × Obj)).map (·.1))) [L]).get? b = some o := fun b o e =>
    S.down (st b o e) fun q => by rw [q, nL] at e; cases e
  obtain ⟨h₁, tk, cells, rfl, keep, F₁, N₁, Y⟩ := frame_led rfl x hnd (fun b o e => S.up e) (by rw [S.size]; exact hideAll_size _ _)
  refine ⟨((T.nolimit).keeps F.keep).keeps keep, codeAny_func (h _ _ oW _ h₁ tk cells S F₁ (N₁.append fun p hp => ?_) Y (X₀.keeps kg) (T.keeps kg) (Heap.lt_size hL) (fun h' sl hk' hl => ?_))⟩
  · rw [List.mem_singleton] at hp
    subst hp
    exact ⟨keep _ _ hL, Nat.ne_of_lt (Heap.lt_size hL), hideAll_none _ (.head _)⟩
  · refine ⟨⟨⟨_, es, ep, hl, hLd, hLk, hLf⟩, fun b o e => hk' b o (kg b o e), F.above⟩, fun p hp => ?_⟩
    have n := N p hp
    exact ⟨hk' _ _ (S.down n.1 n.2.1), n.2⟩
end
end
section
theorem lit_157 : Str.ofString "157" = ofL [49, 53, 55] := by decide
theorem lit_267 : Str.ofString "267" = ofL [50, 54, 55] := by decide
theorem lit_258 : Str.ofString "258" = ofL [50, 53, 56] := by decide
theorem lit_257m : Str.ofString "-257" = ofL [45, 50, 53, 55] := by decide
theorem lit_mq : Str.ofString "-\"" = ofL [45, 34] := by decide
theorem lit_bm : Str.ofString " -" = ofL [32, 45] := by decide
theorem lit_mqm : Str.ofString "-\"-" = ofL [45, 34, 45] := by decide
theorem lit_m : Str.ofString "-" = ofL [45] := by decide
theorem parse_m (w : World) (r : List Nat) (t1 : Tok) (h1 : r.length < 2^19) :
    Spec 4 w 46 [.str (ofL (50 :: 53 :: 55 :: 32 :: 34 :: 45 :: 34 :: 45 :: r)) t1] (fun _ => True) [] (fun v _ => ∃ t, v = .str (Str.ofString "-") t) := by
  have e : scan (45 :: 34 :: 45 :: r) = [45] := by simp [scan]
  intro p loose mean mg mb dp un gd cn cs a ccd cl outer A₀ base h₀ L m s Q E B F X N P T hk hdp hun hret
  refine parse_spec w (45 :: 34 :: 45 :: r) t1 (by simp only [List.length_cons]; omega) p loose mean mg mb dp un gd cn cs a ccd cl outer A₀ base h₀ L m s Q E B F X N P T hk hdp hun fun v nx h' tk' F' N' K O hR => hret v nx h' tk' F' N' K O ?_
  obtain ⟨_, t, rfl⟩ := hR
  exact ⟨t, by rw [e, lit_m]⟩
theorem parse_n1 (w : World) (b : List Nat) (t1 : Tok) (h1 : b.length < 2^19) :
    Spec 4 w 46 [.str (ofL (50 :: 53 :: 55 :: 45 :: 34 :: b)) t1] (fun _ => True) [] (fun v _ => ∃ t, v = .str (Str.ofString "") t) := by
  intro p loose mean mg mb dp un gd cn cs a ccd cl outer A₀ base h₀ L m s Q E B F X N P T hk hdp hun hret
  refine parse_none1 w b t1 (by omega) p loose mean mg mb dp un gd cn cs a ccd cl outer A₀ base h₀ L m s Q E B F X N P T hk hdp hun fun v nx h' tk' F' N' K O hR => hret v nx h' tk' F' N' K O ?_
  obtain ⟨_, t, rfl⟩ := hR
  exact ⟨t, by rw [lit_nil]⟩
theorem parse_n2 (w : World) (b : List Nat) (t1 : Tok) (h1 : b.length < 2^19) :
    Spec 4 w 46 [.str (ofL (50 :: 53 :: 55 :: 32 :: 45 :: b)) t1] (fun _ => True) [] (fun v _ => ∃ t, v = .str (Str.ofString "") t) := by
  intro p loose mean mg mb dp un gd cn cs a ccd cl outer A₀ base h₀ L m s Q E B F X N P T hk hdp hun hret
  refine parse_none2 w b t1 (by omega) p loose mean mg mb dp un gd cn cs a ccd cl outer A₀ base h₀ L m s Q E B F X N P T hk hdp hun fun v nx h' tk' F' N' K O hR => hret v nx h' tk' F' N' K O ?_
  obtain ⟨_, t, rfl⟩ := hR
  exact ⟨t, by rw [lit_nil]⟩
section
variable {M : Model} {A : Around} {E : Value → Shared → Prop} {s : Shared} {h₀ : Heap} {L a : Addr} {m : Str → Option Value} {news : List (Addr × Obj)} {name : Str} {scope : Scope} {cd : Value} {cl : List (Str × Addr)}
theorem name_goesX {n : Str} {pos : Pos} {Q : Unit → Shared → Prop} (F : Fr h₀ L s.heap m) (N : News h₀ L s.heap news)
    (h : ∀ h' v, Fr h₀ L h' (fun x => if x = n then v else m x) → News h₀ L h' news → Q () { s with heap := h', toks := s.toks + 1 })
    (hk : scope.kind = .function := by rfl) (hl : (envX name scope L a cd cl).kindOf n = some .local := by rfl) :
    wpAny M A (do bindName (envX name scope L a cd cl) n .none; unbindBehindTheSuite (envX name scope L a cd cl) n pos) Q E s :=
  wpAny_nameGoes_keeps hl F.ns (by show (scope.kind == .class || (scope.kind == .module && L != mainGlobals)) = false; rw [hk]; rfl) fun h' v hn hs => h h' v (F.set hn hs) (N.set hs)
end
theorem news_tail2 {g h : Heap} {L : Addr} {x y : Addr × Obj} {r : List (Addr × Obj)} (N : News g L h (x :: y :: r)) : News g L h r := fun p hp => N p (.tail _ (.tail _ hp))
theorem eq_three {prog : Program} {w : World} {A : Around} {E : Value → Shared → Prop} {s : Shared} {Q : Value → Shared → Prop} {a b : Addr} {t1 t2 t3 t4 t5 t6 : Tok} {k k' : Nat} {g : Heap} {L : Addr} {news : List (Addr × Obj)} (N : News g L s.heap news)
    (h1 : (a, ({ cls := .type "list", data := .seq [Value.str (Str.ofString "-") t1, .str (Str.ofString "") t2, .str (Str.ofString "") t3].toArray k } : Obj)) ∈ news)
    (h2 : (b, ({ cls := .type "list", data := .seq [Value.str (Str.ofString "-") t4, .str (Str.ofString "") t5, .str (Str.ofString "") t6].toArray k' } : Obj)) ∈ news)
    (hu : A.units + 64 < cLine) (h : Q (.bool true) s) : wpAny (model prog w) A (compareOp .Eq (.ref a) (.ref b)) Q E s := by
  refine eq_dataH (reads_list_at (N.get h1) rfl rfl (.cons (.str _ _) (.cons (.str _ _) (.cons (.str _ _) .nil)))) (reads_list_at (N.get h2) rfl rfl (.cons (.str _ _) (.cons (.str _ _) (.cons (.str _ _) .nil)))) (by decide +kernel) (by decide +kernel) hu ?_
  simp only [PyData.eqv, PyData.eqvAll, beq_self_eq_true, Bool.and_true]
  exact h
noncomputable def RefOk (bd : Nat) (v : Value) : Prop := ∃ x y z r t, v = .str (ofL (x :: y :: z :: r)) t ∧ r.length < bd ∧ (ofL [x, y, z] != Str.ofString "257") = true
inductive RefKeep (W : Addr) (oW : Obj) (pre n' : List (Addr × Obj)) : Prop
  | mk (sl : Array (Option Value)) (h : SubL ((W, { oW with slots := sl }) :: pre) n')
section
variable {prog : Program} {w : World} {A : Around} {E : Value → Shared → Prop} {Q : Flow → Shared → Prop} {s : Shared} {env : Env} {h₀ : Heap} {target : Expr} {body : List Stmt} {I W : Addr} {cls : String} {keep pre : List (Addr × Obj)} {oW : Obj}
noncomputable def RefTurn (bd : Nat) (prog : Program) (w : World) (A : Around) (E : Value → Shared → Prop) (Q : Flow → Shared → Prop) (s : Shared) (env : Env) (h₀ : Heap) (target : Expr) (body : List Stmt) (I W : Addr) (cls : String) (keep pre : List (Addr × Obj)) (oW : Obj) : Prop :=
  ∀ x y z r t sl m h tk (o : Obj), r.length < bd → (ofL [x, y, z] != Str.ofString "257") = true → o.cls = .type cls → Fr h₀ env.locals h m → News h₀ env.locals h ((I, o) :: (W, { oW with slots := sl }) :: pre) →
    wpAny (model prog w) A (assign target env (.str (ofL (x :: y :: z :: r)) t)) (fun _ s₂ => wpAny (model prog w) A (execs body env) (UnrPostW h₀ env.locals { s with heap := h, toks := tk } [(I, o)] (fun _ n' => SubL keep n' ∧ RefKeep W oW pre n') Q) E s₂) E { s with heap := h, toks := tk }
noncomputable def RefFin (Q : Flow → Shared → Prop) (s : Shared) (L : Addr) (h₀ : Heap) (W : Addr) (pre : List (Addr × Obj)) (oW : Obj) : Prop :=
  ∀ m sl h tk, Fr h₀ L h m → News h₀ L h ((W, { oW with slots := sl }) :: pre) → Q .next { s with heap := h, toks := tk }
theorem ref_items {bd : Nat} {xs : List Itm} {m : Str → Option Value} {news : List (Addr × Obj)} (hx : ∀ a ∈ xs, ∀ v h, a.Is v h → RefOk bd v)
    (turn : RefTurn bd prog w A E Q s env h₀ target body I W cls keep pre oW) (fin : RefFin Q s env.locals h₀ W pre oW) (hj : RefKeep W oW pre news) : ItemsRest prog w A E h₀ env target body Q s [(I, cls)] keep xs m news := by
  refine items_inv0 (fun _ _ n' => RefKeep W oW pre n') (fun i a m' news v h tk o ha hj hv ho F N => ?_) (fun m' news h tk hj F N => ?_) hj
  · obtain ⟨x, y, z, r, t, rfl, hr, hne⟩ := hx a (List.mem_of_getElem? ha) v h hv
    obtain ⟨sl, hs⟩ := hj
    exact turn x y z r t sl m' h tk o hr hne ho F (news_subL1 N hs)
  · obtain ⟨sl, hs⟩ := hj
    exact fin m' sl h tk F (news_subL N hs)
theorem ref_outer {T C : Addr} {oT oc : Obj} {t1 t2 t3 : Tok} {m : Str → Option Value} (turn : RefTurn 10 prog w A E Q s env h₀ target body I W cls keep [(T, oT), (C, oc)] oW) (fin : RefFin Q s env.locals h₀ W [(T, oT), (C, oc)] oW) :
    ItemsRest prog w A E h₀ env target body Q s [(I, cls)] keep [.val (.str (Str.ofString "157") t1), .val (.str (Str.ofString "267") t2), .val (.str (Str.ofString "258") t3)] m [(T, oT), (C, oc), (W, oW)] := by
  refine ref_items (fun a ha v h hv => ?_) turn fin ⟨oW.slots, .tail _ (.tail _ (.head _)), .head _, .tail _ (.head _), trivial⟩
  rcases List.mem_cons.mp ha with rfl | ha
  · cases hv; rw [lit_157]; exact ⟨_, _, _, [], _, rfl, by decide, by decide⟩
  rcases List.mem_cons.mp ha with rfl | ha
  · cases hv; rw [lit_267]; exact ⟨_, _, _, [], _, rfl, by decide, by decide⟩
  rcases List.mem_cons.mp ha with rfl | ha
  · cases hv; rw [lit_258]; exact ⟨_, _, _, [], _, rfl, by decide, by decide⟩
  · cases ha
theorem ref_inner {T T2 I1 C x y z : Nat} {a b : List Nat} {oT o2 o1 oc : Obj} {t1 t2 : Tok} {sl0 : Array (Option Value)} {m : Str → Option Value} (hne : (ofL [x, y, z] != Str.ofString "257") = true) (ha : a.length < 200) (hb : b.length < 200) (turn : RefTurn 200 prog w A E Q s env h₀ target body I W cls keep [(T2, o2), (I1, o1), (T, oT), (C, oc)] oW) (fin : RefFin Q s env.locals h₀ W [(T2, o2), (I1, o1), (T, oT), (C, oc)] oW) :
    ItemsRest prog w A E h₀ env target body Q s [(I, cls)] keep [.val (.str (ofL (x :: y :: z :: a)) t1), .val (.str (ofL (x :: y :: z :: b)) t2)] m [(T2, o2), (I1, o1), (W, { oW with slots := sl0 }), (T, oT), (C, oc)] := by
  refine ref_items (fun i hi v h hv => ?_) turn fin ⟨sl0, .tail _ (.tail _ (.head _)), .head _, .tail _ (.head _), .tail _ (.tail _ (.tail _ (.head _))), .tail _ (.tail _ (.tail _ (.tail _ (.head _)))), trivial⟩
  rcases List.mem_cons.mp hi with rfl | hi
  · cases hv; exact ⟨_, _, _, _, _, rfl, ha, hne⟩
  rcases List.mem_cons.mp hi with rfl | hi
  · cases hv; exact ⟨_, _, _, _, _, rfl, hb, hne⟩
  · cases hi
end
theorem refused_call (w : World) (t : List Nat) (t1 : Tok) (h1 : t.length < 100) {p : Program} {loose : List Str} {mean : ExcName → Option Value} {mg mb : Str → Option Value} {dp un : Nat} {gd : Option (List Code)} {cn : Str} {cs : Scope} {a : Addr} {ccd : Value} {cl : List (Str × Addr)} {A₀ : Around} {h₀ : Heap} {L : Addr} {m : Str → Option Value} {s : Shared} {news : List (Addr × Obj)} {Q E : Value → Shared → Prop}
    (B : Below A₀ h₀ [] h₀) (F : Fr h₀ L s.heap m) (X : (hd.heap_39 w.params).In h₀) (N : News h₀ L s.heap news) (T : Top p loose mean mg mb h₀) (hk : cs.kind = .function) (hdp : dp + 12 < recursionLimit) (hun : un + 16 * 12 < cLine)
    (hret : ∀ h' tk', Fr h₀ L h' m → News h₀ L h' news → Q (.bool true) { s with heap := h', toks := tk' }) :
    wpAny (model PySem.Challenge.rw_ux0013_01.row.prog w) (ktrTop dp un gd cn cs L a ccd cl []) (call (.ref 158) [.str (ofL (32 :: 34 :: t)) t1]) Q E s := by
  revert X
  k_fill
  intro X
  w_on
  k_with_none
  k_with "call ref" => (k_dflt (refine' raise_led (parse_raise w _ _ _ _ _ ?q1 hne9) S9 ?F ?X ?N ?T (Drop.mem ?dr) (Drop.sub ?dr) ?hk ?hd ?hu ?_; (case F => k_asm); (case X => k_asm); (case N => k_asm); (case T => k_asm); (case dr => walk_at "mine drop"); (case q1 => omega); (case hk => exact rfl); (case hd => walk_at "mine units"); (case hu => walk_at "mine units"); k_whole); (intro e9 t9 h9 tk9 R9); (try dsimp only at R9))
  k_with "call ref" => (k_dflt (refine' spec_ledv (parse_m w _ _ ?q1) S9 ?F ?X ?N ?T ?hm ?hk ?hd ?hu trivial ?_; (case F => k_asm); (case X => k_asm); (case N => k_asm); (case T => k_asm); (case hm => k_mem); (case q1 => ((try simp only [List.length_cons]); omega)); (case hk => exact rfl); (case hd => walk_at "mine units"); (case hu => walk_at "mine units"); k_whole); (intro t9 h9 tk9 F9 N9))
  k_with "call ref" => (k_dflt (refine' spec_ledv (parse_n1 w _ _ ?q1) S9 ?F ?X ?N ?T ?hm ?hk ?hd ?hu trivial ?_; (case F => k_asm); (case X => k_asm); (case N => k_asm); (case T => k_asm); (case hm => k_mem); (case q1 => ((try simp only [List.length_cons]); omega)); (case hk => exact rfl); (case hd => walk_at "mine units"); (case hu => walk_at "mine units"); k_whole); (intro t9 h9 tk9 F9 N9))
  k_with "call ref" => (k_dflt (refine' spec_ledv (parse_n2 w _ _ ?q1) S9 ?F ?X ?N ?T ?hm ?hk ?hd ?hu trivial ?_; (case F => k_asm); (case X => k_asm); (case N => k_asm); (case T => k_asm); (case hm => k_mem); (case q1 => ((try simp only [List.length_cons]); omega)); (case hk => exact rfl); (case hd => walk_at "mine units"); (case hu => walk_at "mine units"); k_whole); (intro t9 h9 tk9 F9 N9))
  k_with "ItemsRest" => k_dflt ((with_unfolding_all refine' ref_inner hne9 ?la ?lb ?ti ?fi); (case la => (simp only [List.length_cons, List.length_append, List.length_nil]; omega)); (case lb => (simp only [List.length_cons, List.length_append, List.length_nil]; omega)); (rotate_left); (intro m9 sl9 h9 tk9 F9 N9); (rotate_left); (intro x9 y9 z9 r9 t9 sl9 m9 h9 tk9 o9 hr9 hne9 ho9 F9 N9))
  k_with "ItemsRest" => k_dflt ((with_unfolding_all refine' ref_outer ?to ?fo); (rotate_left); (intro m9 sl9 h9 tk9 F9 N9); (rotate_left); (intro x9 y9 z9 r9 t9 sl9 m9 h9 tk9 o9 hr9 hne9 ho9 F9 N9))
  k_with "noteFrame ref" => (k_dflt (refine' caught_L (bmB := [.type "Exception", .type "BaseException", .type "object"]) (newId := "Exception.__new__") R9 S9 ?hA X T ?ex ?q ?hb ?_; (case hA => exact rfl); (case ex => k_is); (case q => k_exc); (case hb => rfl); k_whole); (intro h8 sl8 oe8 ot8 ws8 nt8 tk8 F8 N8 c81 c82 c83 c84 c85); clear R9)
  k_with "call type:str cons nil" => (k_dflt (refine' excStr_str ?hu ?X ?he c81 ?hs ?hm c82 c83 ?ht c85 ?_; (case hu => walk_at "mine units"); (case X => exact (show Frag.In _ g' by assumption).keeps F8.keep); (case he => exact (N8 _ (.head _)).1); (case ht => exact (N8 _ (.tail _ (.head _))).1); (case hs => k_is); (case hm => k_is); k_whole))
  k_with "LeaveM" => ((k_dflt (refine' leaveM_ ?zq3k1 ?zq3k2 ?_; (case zq3k1 => k_asm); (case zq3k2 => k_asm); k_whole); intro kF kN kK kO))
  k_with "execs cons" => (k_fold)
  k_with "storeName" => (dsimp only)
  k_with "newList" => (dsimp only)
  k_with "newTuple" => (dsimp only)
  k_with "truthy bool" => (dsimp only)
  k_with "spliced" => (dsimp only)
  k_with "callWith ref" => (dsimp only)
  k_with "compareOp" => (dsimp only)
  k_with "call ref" => (dsimp only)
  k_with "mine units" => (k_dflt (first | exact unit0 (by assumption) | exact unit1 (by assumption) (by exact rfl) | exact unit2 (by assumption) (by exact rfl) | exact unit3 (by assumption) (by exact rfl) | decide))
  k_with "mine and" => ((first | with_reducible assumption | (apply And.right; first | with_reducible assumption | (apply And.right; first | with_reducible assumption | (apply And.right; first | with_reducible assumption | (apply And.right; first | with_reducible assumption | (apply And.right; first | with_reducible assumption | (apply And.right; first | with_reducible assumption | (apply And.right; first | with_reducible assumption | (apply And.right; with_reducible assumption))))))))))
  k_with "mine in" => (first | (apply And.left; walk_at "mine and") | walk_at "mine and")
  k_with "mine ne" => ((try dsimp only); first | (apply Nat.ne_of_lt; walk_at "mine in") | (apply Nat.ne_of_gt; walk_at "mine in") | walk_at "mine in" | (apply Ne.symm; walk_at "mine in"))
  k_with "mine drop" => (first | (refine' Drop.head ?zq42a; (case zq42a => k_all)) | (refine' Drop.tail ?zq42a ?zq42b; (case zq42a => k_ne); (case zq42b => walk_at "mine drop")))
  k_with "binaryOp Add str str" => ((k_here; k_dflt (refine KLn.add_n (m := 8388608) (k := 8388608) ?zq43a ?zq43b (by decide) ?_; (case zq43a => first | decide | (rw [ofL_len]; (try simp only [List.length_append, List.length_cons, List.length_nil]); omega)); (case zq43b => first | decide | (rw [ofL_len]; (try simp only [List.length_append, List.length_cons, List.length_nil]); omega)); intro _ _ q1 q2 q3 q4; clear q1 q2 q3 q4; (try simp only [lit_157, lit_267, lit_258, lit_257m, lit_257, lit_bq, lit_mq, lit_bm, lit_mqm]); rw [app_ofL]; (try simp only [List.cons_append, List.nil_append]))))
  k_with "compareOp Eq ref ref" => ((k_dflt (refine' eq_three ?zq44N ?zq44a ?zq44b ?zq44u ?_; (case zq44N => k_asm); (case zq44a => k_mem); (case zq44b => k_mem); (case zq44u => walk_at "mine units"))))
  k_with "eval ListComp" => ((k_here; k_dflt (refine ListComp_V (by k_asm) (by with_unfolding_all rfl) (by decide) (by rfl) (by decide) (by rfl) ?_)))
  k_with "TupSrc" => ((k_here; k_dflt (refine TupSrc.mk (by rfl) (by k_asm) (by k_asm) (by k_mem) (by first | size_fits | exact Nat.le_of_ble_eq_true rfl) ?_); intro g'; lcg_lit))
  k_with "CompRest" => ((with_unfolding_all first
    | (refine LCg.CompRest.succ ?_; intro v' I' oI' C' oC' D' m' h' tk' E' hv' hC' hx' F' N' off' ne'; lcg_open hv')
    | refine LCg.CompRest.zero ?_))
  k_with "CompEnd" => ((k_dflt (refine comp_same (by k_asm) (by k_asm) (by assumption) ⟨_, by k_mem⟩ ?_)))
  k_with "compareOp NotEq str str" => ((refine ne_str ?_; rw [bne_self_eq_false]))
  k_with "bind" => ((k_dflt (refine' name_goesX ?zq50F ?zq50N ?_ ?zq50hk ?zq50hl; (case zq50F => k_asm); (case zq50N => k_asm); (case zq50hk => rfl); (case zq50hl => rfl)); intro h7 v7 F7 N7; (replace N7 := news_tail2 N7)))
  k_dflt (refine' enterG (args := ⟨_, _⟩) B F X N T ?kA ?kF ?kK ?k6 ?k7 ?k8 ?k9 ?kB ?kD ?_ ?c2 ?c3 ?c4; (case kA => exact rfl); (case kF => exact rfl); (case kK => assumption); (case k6 => k_is); (case k7 => k_is); (case k8 => walk_at "mine units"); (case k9 => first | exact BindsTo.of_eq rfl | exact binds_K (by k_in) rfl (by k_is) rfl rfl rfl); (case kB => exact rfl); (case kD => decide +kernel); (case c2 => exact rfl); (case c3 => exact rfl); (case c4 => exact rfl); k_whole; intro g₀ g' oW L' h' tk' cells' S9 F' N' Y' X' T' l1 hx9; k_cells Y'; (try simp only [List.cons_append, List.nil_append] at N'); (try dsimp only); (try k_fold))
  k_steps
  · exact ⟨sl8, by k_subL⟩
  · exact ⟨sl9, by k_subL⟩
  · exact (fun z => hret _ _ z.1 z.2) (hx9 _ _ (Fr.keep (by assumption)) (News.get (by assumption) (by k_mem)))
end
section
theorem slice_ints {vs : List Value} {ns : List Int} (h : IntsAre vs ns) (lo hi st : Option Int) : ∃ vs' ns', slicePick vs.toArray lo hi st = List.toArray vs' ∧ IntsAre vs' ns' := by
  have key : ∀ is : List Nat, ∃ ns', IntsAre (is.filterMap (vs.toArray[·]?)) ns' := by
    intro is
    induction is with
    | nil => exact ⟨[], .nil⟩
    | cons i r ih =>
      obtain ⟨ns', hn⟩ := ih
      cases e : vs.toArray[i]? with
      | none => exact ⟨ns', by rw [List.filterMap_cons_none e]; exact hn⟩
      | some v =>
        obtain ⟨n, t, rfl, _⟩ := IntsAre.at h i v (by simpa using e)
        exact ⟨n :: ns', by rw [List.filterMap_cons_some e]; exact .cons n t hn⟩
  obtain ⟨ns', hn⟩ := key (sliceRange (sliceBounds lo hi st vs.toArray.size).1 (sliceBounds lo hi st vs.toArray.size).2.1 (sliceBounds lo hi st vs.toArray.size).2.2)
  exact ⟨_, ns', rfl, hn⟩
theorem sum_slice {prog : Program} {w : World} {A : Around} {E : Value → Shared → Prop} {s : Shared} {h₀ : Heap} {L D : Addr} {m : Str → Option Value} {news : List (Addr × Obj)} {Q : Value → Shared → Prop} {vs : List Value} {ns : List Int} {lo hi st : Option Int} {k : Nat}
    (F : Fr h₀ L s.heap m) (N : News h₀ L s.heap ((D, ({ cls := .type "list", data := .seq (slicePick vs.toArray lo hi st) k } : Obj)) :: news)) (hI : IntsAre vs ns) (hh : A.handled = none)
    (h : ∀ (x : Int) t h' tk, Fr h₀ L h' m → News h₀ L h' news → Q (.int x t) { s with heap := h', toks := tk }) :
    wpAny (model prog w) A (call (.builtin "sum") [.ref D]) Q E s := by
  obtain ⟨vs', ns', e, hn⟩ := slice_ints hI lo hi st
  refine LSm.sum_ints F N hh (vs := vs') (ns := ns') ⟨_, (N _ (.head _)).1, rfl, k, by rw [e]⟩ hn ?_
  intro h' tk t F' N'
  exact h _ _ _ _ F' (fun p hp => N' p (.tail _ hp))
end
section
theorem whole_nat (x : Int) : ∃ wh : Nat, 16 + Int.fmod (38 + x) 112 = (wh : Int) ∧ 16 ≤ wh ∧ wh < 128 := by
  have h1 : Int.fmod (38 + x) 112 = (38 + x) % 112 := Int.fmod_eq_emod_of_nonneg _ (by decide)
  have h2 := Int.emod_nonneg (38 + x) (b := 112) (by decide)
  have h3 := Int.emod_lt_of_pos (38 + x) (b := 112) (by decide)
  obtain ⟨k, e⟩ := Int.eq_ofNat_of_zero_le h2
  rw [e] at h3
  rw [h1, e]
  exact ⟨16 + k, rfl, Nat.le_add_right _ _, Nat.add_lt_add_left (Int.ofNat_lt.mp h3) 16⟩
theorem size_nat {wh : Nat} (h1 : 16 ≤ wh) (h2 : wh < 128) : ∃ sz : Nat, (bl wh : Nat) = sz + 1 ∧ 4 ≤ sz ∧ sz ≤ 6 := by
  have a := @bl_lt wh 4 h1
  have b := @bl_le wh 7 h2
  exact ⟨bl wh - 1, by omega, by omega, by omega⟩
noncomputable def tailsL : List (List Nat) := [[34, 32, 105, 115, 32, 34, 104, 101, 114, 101, 34], [], [34]]
theorem tails_len {tl : List Nat} (h : tl ∈ tailsL) : tl.length < 20 := by revert tl; decide
theorem lit_here : Str.ofString "\" is \"here\"" = ofL [34, 32, 105, 115, 32, 34, 104, 101, 114, 101, 34] := by decide
section
variable {M : Model} {A : Around} {E : Value → Shared → Prop} {s : Shared} {env : Env} {n : Str} {t : Tok} {Q : Unit → Shared → Prop}
theorem store_whole {x : Int} (h : ∀ wh : Nat, 16 ≤ wh → wh < 128 → wpAny M A (storeName env n (.int (wh : Int) t)) Q E s) : wpAny M A (storeName env n (.int (16 + Int.fmod (38 + x) 112) t)) Q E s := by
  obtain ⟨wh, e, h1, h2⟩ := whole_nat x
  rw [e]; exact h wh h1 h2
theorem store_size {wh : Nat} (h1 : 16 ≤ wh) (h2 : wh < 128) (h : ∀ sz : Nat, (bl wh : Nat) = sz + 1 → 4 ≤ sz → sz ≤ 6 → wpAny M A (storeName env n (.int (sz : Int) t)) Q E s) : wpAny M A (storeName env n (.int (((bl wh : Nat) : Int) - 1) t)) Q E s := by
  obtain ⟨sz, e, h3, h4⟩ := size_nat h1 h2
  have e' : ((bl wh : Nat) : Int) - 1 = (sz : Int) := by omega
  rw [e']; exact h sz e h3 h4
theorem store_letter {x : Int} (h : ∀ c : Nat, 35 ≤ c → c < 1035 → wpAny M A (storeName env n (.str (ofL [c]) t)) Q E s) : wpAny M A (storeName env n (.str ⟨#[(35 + Int.fmod x 1000).toNat]⟩ t)) Q E s := by
  have h1 : Int.fmod x 1000 = x % 1000 := Int.fmod_eq_emod_of_nonneg _ (by decide)
  have h2 := Int.emod_nonneg x (b := 1000) (by decide)
  have h3 := Int.emod_lt_of_pos x (b := 1000) (by decide)
  obtain ⟨k, e⟩ := Int.eq_ofNat_of_zero_le h2
  rw [e] at h3
  rw [h1, e]
  exact h (35 + k) (Nat.le_add_right _ _) (Nat.add_lt_add_left (Int.ofNat_lt.mp h3) 35)
end
theorem tail_item {prog : Program} {w : World} {A : Around} {E : Value → Shared → Prop} {s : Shared} {Q : Value → Shared → Prop} {value slice : PySem.Expr} {l : Addr} {t0 t1 t2 u : Tok} {d : Int} (hl : s.heap.IsList l [Value.str (Str.ofString "\" is \"here\"") t0, .str (Str.ofString "") t1, .str (Str.ofString "\"") t2].toArray)
    (h : ∀ tl ∈ tailsL, ∀ t, Q (.str (ofL tl) t) s)
    (hs : subscripted slice false (.ref l) (.int (Int.fmod d 3) u) = operate [.ref l, .int (Int.fmod d 3) u] (getItem (.ref l) (.int (Int.fmod d 3) u)) := by with_unfolding_all rfl) :
    wpAny (model prog w) A (subscriptTail value slice (.ref l) (.int (Int.fmod d 3) u)) Q E s := by
  have h1 : Int.fmod d 3 = d % 3 := Int.fmod_eq_emod_of_nonneg _ (by decide)
  have h2 := Int.emod_nonneg d (b := 3) (by decide)
  have h3 := Int.emod_lt_of_pos d (b := 3) (by decide)
  obtain ⟨k, e⟩ := Int.eq_ofNat_of_zero_le h2
  rw [e] at h3
  have hk : k < 3 := Int.ofNat_lt.mp h3
  rw [h1, e] at hs ⊢
  have h4 : k = 0 ∨ k = 1 ∨ k = 2 := (by decide : ∀ k, k < 3 → k = 0 ∨ k = 1 ∨ k = 2) k hk
  rcases h4 with e | e | e <;> subst e
  · exact item_list (i := 0) hl rfl (by decide) rfl (by rw [lit_here]; exact h _ (.head _) _) hs
  · exact item_list (i := 1) hl rfl (by decide) rfl (by rw [lit_nil]; exact h _ (.tail _ (.head _)) _) hs
  · exact item_list (i := 2) hl rfl (by decide) rfl (by rw [lit_q]; exact h _ (.tail _ (.tail _ (.head _))) _) hs
end
section
section
variable {prog : Program} {w : World} {A : Around} {E : Value → Shared → Prop} {Q : Flow → Shared → Prop} {s : Shared} {env : Env} {h₀ : Heap} {x : Str} {body : List Stmt}
theorem unrPost_mono {I : Addr} {it : Obj} {R R' : (Str → Option Value) → List (Addr × Obj) → Prop} {L : Addr} {s₁ s₂ : Shared} {f : Flow} (k : ∀ m news, R m news → R' m news) (h : UnrPost h₀ L s₁ I it R Q f s₂) : UnrPost h₀ L s₁ I it R' Q f s₂ := by
  cases f with
  | ret v => exact h
  | brk => exact h
  | next =>
    obtain ⟨h', tk, m', news', e, F, N, off, r⟩ := h
    exact ⟨h', tk, m', news', e, F, N, off, k _ _ r⟩
  | cont =>
    obtain ⟨h', tk, m', news', e, F, N, off, r⟩ := h
    exact ⟨h', tk, m', news', e, F, N, off, k _ _ r⟩
theorem range_inv {I : Addr} {n : Nat} (J : Nat → (Str → Option Value) → List (Addr × Obj) → Prop)
    (turn : ∀ i t h tk m news, i < n → J i m news → Fr h₀ env.locals h (fun y => if y = x then some (.int (0 + (i : Int)) t) else m y) → News h₀ env.locals h ((I, itR (0 + ((i + 1 : Nat) : Int)) ((n : Int) - ((i + 1 : Nat) : Int))) :: news) →
      wpAny (model prog w) A (execs body env) (UnrPost h₀ env.locals { s with heap := h, toks := tk } I (itR (0 + ((i + 1 : Nat) : Int)) ((n : Int) - ((i + 1 : Nat) : Int))) (J (i + 1)) Q) E { s with heap := h, toks := tk })
    (fin : ∀ h tk m news, J n m news → Fr h₀ env.locals h m → News h₀ env.locals h news → Q .next { s with heap := h, toks := tk }) :
    ∀ (k i : Nat) (m : Str → Option Value) (news : List (Addr × Obj)), i + k = n → J i m news → RangeRest prog w A E h₀ env x body Q s I 0 n k i m news
  | 0, i, m, news, e, hj => RangeRest.zero fun h tk F N => fin h tk m news (by rw [← e]; exact hj) F N
  | k + 1, i, m, news, e, hj => RangeRest.succ fun t h tk F N =>
    wpAny_mono (turn i t h tk m news (by omega) hj F N) (fun _ _ q => unrPost_mono (fun m' n' j => range_inv J turn fin k (i + 1) m' n' (by omega) j) q) fun _ _ e => e
end
section
variable {prog : Program} {w : World} {A : Around} {E : Value → Shared → Prop} {s : Shared} {env : Env} {h₀ : Heap} {target : Expr} {body : List Stmt} {Q : Flow → Shared → Prop}
theorem iter_led {l : Addr} {vs : List Value} {k : Nat} {m₀ : Str → Option Value} {news : List (Addr × Obj)}
    (hh : A.handled = none) (F : Fr h₀ env.locals s.heap m₀) (N : News h₀ env.locals s.heap news) (hm : (l, listOf vs.toArray k) ∈ news)
    (rest₀ : ∀ I : Addr, (∀ p ∈ news, p.1 < I) → ItemsRest prog w A E h₀ env target body Q s [(I, "list_iterator")] [(l, listOf vs.toArray k)] (vs.map .val) m₀ news) :
    wpAny (model prog w) A (pyIter (.ref l)) (fun it s₂ => TurnsAt prog w A h₀ env target body Q E it s₂) E s := by
  have hl : s.heap.IsList l vs.toArray := News.isList N hm
  have hlt : l < s.heap.objs.size := Heap.lt_size (N _ hm).1
  have hne : l ≠ s.heap.objs.size := Nat.ne_of_lt hlt
  refine wpAny_pyIter_list hl ?_
  refine ktg_core (tk0 := s.toks) (keep := [(l, listOf vs.toArray k)]) (KTurns.ofWalks (Walks.list hh s.heap.objs.size l hne vs.toArray) fun i v s Q E st q => letGo_listiter st.1 q) (by simp) (fun i v h hp => ⟨.val v, ?_, rfl⟩) (fun i h st => ?_) (fun b hb => ?_) (fun b hb => by simpa using hb) (fun b hb => ?_) ?_ (fun p hp hI => ?_) ?_ (F.push _) (fun p hp => ⟨Heap.get?_push_of_some _ (N p hp).1, (N p hp).2⟩) ⟨hm, trivial⟩ (rest₀ _ fun p hp => Heap.lt_size (N p hp).1)
  · have hp' : vs.toArray[i]? = some v := hp
    simpa using hp'
  · obtain ⟨it, hit, hic, _⟩ := st.1
    exact ⟨[(s.heap.objs.size, it)], ⟨⟨rfl, hic⟩, trivial⟩, fun p hp => by rw [List.mem_singleton.mp hp]; exact hit⟩
  · have hb' : b = s.heap.objs.size := by simpa using hb
    rw [hb']
    exact ⟨List.mem_cons_self .., next_is_new F⟩
  · rcases List.mem_cons.mp hb with rfl | hb
    · exact .inl (by simp)
    · rw [List.mem_singleton.mp hb]
      exact .inr (.inl ⟨_, .head _⟩)
  · intro hb
    rcases List.mem_cons.mp hb with e | hb
    · exact absurd F.ns.lt (e ▸ Nat.lt_irrefl _)
    · have := (N _ hm).2.1
      exact this (List.mem_singleton.mp hb).symm
  · exact absurd (Heap.lt_size (N p hp).1) ((List.mem_singleton.mp hI) ▸ Nat.lt_irrefl _)
  · exact ⟨⟨_, Heap.get?_push_size _ rfl, rfl, rfl⟩, hl.push _⟩
end
end
section
noncomputable def evalT {α : Type} (lt : Nat → Nat → Bool) : KasT α → α
  | .ret a => a
  | .ask i j k => evalT lt (k (lt i j))
noncomputable def okT {α : Type} (lt : Nat → Nat → Bool) (n : Nat) : KasT α → Bool
  | .ret _ => true
  | .ask i j k => decide (i < n) && (decide (j < n) && okT lt n (k (lt i j)))
theorem wp_eval {α : Type} {lt : Nat → Nat → Bool} {n : Nat} {cmp : Nat → Nat → (Bool → Shared → Prop) → Shared → Prop} (hc : ∀ i j C s, i < n → j < n → C (lt i j) s → cmp i j C s) {Q : α → Shared → Prop} :
    ∀ (t : KasT α) (s : Shared), okT lt n t = true → Q (evalT lt t) s → t.kasWp cmp Q s
  | .ret _, _, _, h => h
  | .ask i j k, s, ho, h => by
    simp only [okT, Bool.and_eq_true, decide_eq_true_eq] at ho
    exact hc i j _ s ho.1 ho.2.1 (wp_eval hc (k (lt i j)) s ho.2.2 h)
noncomputable def ltOf (kz : List Int) (i j : Nat) : Bool := decide (kz.getD i 0 < kz.getD j 0)
noncomputable def permOf (kz : List Int) : List Nat := (evalT (ltOf kz) (kas_sort kz.length)).toList
noncomputable def permOk (kz : List Int) : Bool := okT (ltOf kz) kz.length (kas_sort kz.length)
noncomputable def outOf {α : Type} (d : α) (kz : List Int) (vs : List α) : List α := if kz.length < 2 then vs else (permOf kz).map fun i => vs.getD i d
section
variable {prog : Program} {w : World} {A : Around} {E : Value → Shared → Prop} {s : Shared} {h₀ : Heap} {L : Addr} {m : Str → Option Value} {news : List (Addr × Obj)} {a kS : Addr} {vs : List Value} {kz : List Int} {keys items : Array Value} {e e1 : Nat} {P : PySem.Fin → Shared → Prop}
structure SrtD (kS a : Addr) (news : List (Addr × Obj)) : Prop where
  ka : kS ≠ a
  k : ∀ p ∈ news, p.1 ≠ kS
  a : ∀ p ∈ news, p.1 ≠ a
noncomputable abbrev srtL (kS a : Addr) (keys items : Array Value) (e e1 : Nat) (news : List (Addr × Obj)) : List (Addr × Obj) := (kS, seqObj "list" keys e) :: (a, seqObj "list" items e1) :: news
theorem line_le {n : Nat} (h : n ≤ 16777216) : n ≤ sizeLine := by rw [sizeLine_eq]; exact h
theorem line_le1 {n : Nat} (h : n ≤ 16777217) : n ≤ sizeLine + 1 := by rw [sizeLine_eq]; exact h
theorem srt_keys {f : Array Value → Array Value} {Q : Unit → Shared → Prop} (D : SrtD kS a news) (F : Fr h₀ L s.heap m) (N : News h₀ L s.heap (srtL kS a keys items e e1 news)) (h1 : keys.size ≤ 16777216) (h2 : (f keys).size ≤ 16777217)
    (h : ∀ h' e', Fr h₀ L h' m → News h₀ L h' (srtL kS a (f keys) items e' e1 news) → Q () { s with heap := h' }) : wpAny (model prog w) A (Builtin.List.listUpdate (.ref kS) f) Q E s :=
  have o := N _ (.head _)
  have sb := Heap.SameBut.update s.heap kS (Obj.mapSeq f)
  listUpdate_at o.1 rfl (h _ _ (F.change sb o.2.1 o.2.2) (N.setHead (List.forall_mem_cons.mpr ⟨D.ka.symm, D.k⟩) sb (get?_update_seq o.1 f))) (line_le h1) (line_le1 h2)
theorem srt_items {f : Array Value → Array Value} {Q : Unit → Shared → Prop} (D : SrtD kS a news) (F : Fr h₀ L s.heap m) (N : News h₀ L s.heap (srtL kS a keys items e e1 news)) (h1 : items.size ≤ 16777216) (h2 : (f items).size ≤ 16777217)
    (h : ∀ h' e', Fr h₀ L h' m → News h₀ L h' (srtL kS a keys (f items) e e' news) → Q () { s with heap := h' }) : wpAny (model prog w) A (Builtin.List.listUpdate (.ref a) f) Q E s :=
  have o := N _ (.tail _ (.head _))
  have sb := Heap.SameBut.update s.heap a (Obj.mapSeq f)
  listUpdate_at o.1 rfl (h _ _ (F.change sb o.2.1 o.2.2) (N.setSecond D.ka D.a sb (get?_update_seq o.1 f))) (line_le h1) (line_le1 h2)
theorem keys_size (hk : IntsAre keys.toList kz) (hlen : kz.length = vs.length) : keys.size = vs.length := hk.length.trans hlen
theorem zip_len (hk : IntsAre keys.toList kz) (hlen : kz.length = vs.length) : (keys.zip vs.toArray).size = vs.length := by
  rw [Array.size_zip, keys_size hk hlen]
  exact Nat.min_self _
theorem keys_at (hk : IntsAre keys.toList kz) (hlen : kz.length = vs.length) {i : Nat} (hi : i < kz.length) : ∃ t, (kas_item (keys.zip vs.toArray) i).1 = .int (kz.getD i 0) t ∧ (kas_item (keys.zip vs.toArray) i).2 = vs.getD i .none := by
  have hsz := keys_size hk hlen
  have hiv : i < vs.length := hlen ▸ hi
  have hik : i < keys.size := hsz ▸ hiv
  have e : kas_item (keys.zip vs.toArray) i = (keys[i], vs[i]) := by
    unfold kas_item
    have hz' : i < min keys.size vs.length := Nat.lt_min.mpr ⟨hik, hiv⟩
    simp [Array.getD, hz']
  obtain ⟨t, ht⟩ := hk.get i kz[i] (by simp [hi])
  have hkey : keys[i] = .int kz[i] t := by
    have : keys.toList[i]? = some keys[i] := by simp [hik]
    rw [this] at ht
    exact Option.some.inj ht
  rw [e]
  exact ⟨t, by simp [hkey, hi], by simp [hiv]⟩
theorem srt_tail {st : SortSt} (D : SrtD kS a news) (F : Fr h₀ L s.heap m) (N : News h₀ L s.heap (srtL kS a keys #[] e e1 news)) (hsz : keys.size < 64) (h64 : vs.length < 64) (hout : ((arrOf st).map (·.2)).toList = vs) (hfl : failedOf st = none)
    (h : ∀ h' tk c, Fr h₀ L h' m → News h₀ L h' ((a, seqObj "list" vs.toArray c) :: news) → P (.done (.ret .none)) { s with heap := h', toks := tk }) : wpAny (model prog w) A (ksk_tail a false e1 (.ref kS) st) P E s := by
  obtain rfl := hout
  unfold ksk_tail
  refine wpAny_bind (srt_keys D F N (fit_64 hsz) (Nat.zero_le _) fun h2 e2 F2 N2 => wpAny_bind (wpAny_letGo (wpAny_bind ?_)))
  refine seqEpoch_at (N2 _ (.tail _ (.head _))).1 rfl (wpAny_bind (srt_items (s := { s with heap := h2 }) D F2 N2 (Nat.zero_le _) (Nat.le_succ_of_le (fit_64 h64)) fun h3 e3 F3 N3 => ?_))
  rw [hfl, bne_self_eq_false]
  exact wpAny_pure (h h3 s.toks e3 F3 (N3.perm fun _ hp => .tail _ hp))
theorem srt_end (D : SrtD kS a news) (F : Fr h₀ L s.heap m) (N : News h₀ L s.heap (srtL kS a keys #[] e e1 news)) (hk : IntsAre keys.toList kz) (hlen : kz.length = vs.length) (h64 : vs.length < 64) (hok : permOk kz = true) (hps : (permOf kz).length = kz.length)
    (h : ∀ h' tk c, Fr h₀ L h' m → News h₀ L h' ((a, seqObj "list" (outOf Value.none kz vs).toArray c) :: news) → P (.done (.ret .none)) { s with heap := h', toks := tk }) : wpAny (model prog w) A (ksk_end a false vs.toArray e1 (.ref kS) keys) P E s := by
  have hsz := keys_size hk hlen
  have hz64 : keys.size < 64 := hsz ▸ h64
  unfold ksk_end
  by_cases h2 : vs.length < 2
  · have ho : outOf Value.none kz vs = vs := if_pos (hlen ▸ h2)
    rw [ho] at h
    have hv : ((keys.zip vs.toArray).map (·.2)).toList = vs := by
      rw [Array.toList_map, ksk_zip]
      exact List.map_snd_zip (Nat.le_of_eq hsz.symm)
    simp only [List.size_toArray, if_pos h2, Bool.false_eq_true, if_false]
    exact wpAny_bind (wpAny_pure (wpAny_bind (wpAny_pure (srt_tail (st := SortSt.mk' general' (keys.zip vs.toArray) #[] 7 none) D F N hz64 h64 hv rfl h))))
  · have hz2 : ¬ kz.length < 2 := hlen ▸ h2
    have est : SortSt.mk' oneType' (keys.zip vs.toArray) #[] 7 none = kas_st oneType' (keys.zip vs.toArray) (List.toArray (List.range kz.length)) :=
      congrArg (SortSt.mk' oneType' · #[] 7 none) ((kas_range _).symm.trans (by rw [zip_len hk hlen, hlen]))
    have run := kas_runs (prog := prog) (w := w) (A := A) (E := E) (κ := oneType') (it := keys.zip vs.toArray) (n := kz.length) (s := s)
      (Q := fun _ st' s' => ((arrOf st').map (·.2)).toList = outOf Value.none kz vs ∧ failedOf st' = none ∧ s' = s)
      (G := fun p' s' => p'.toList = permOf kz ∧ s' = s) (Nat.le_of_not_lt hz2) (hlen ▸ h64) (fun p' st' s' a1 a2 a3 a4 => ⟨?_, a3, a4.2⟩)
      (wp_eval (lt := ltOf kz) (n := kz.length) (fun i j C s hi hj hC => ?_) _ _ hok ⟨rfl, rfl⟩)
    · simp only [List.size_toArray, if_neg h2, Bool.false_eq_true, if_false, ksk_kind hk (hsz ▸ Nat.le_of_not_lt h2)]
      rw [← est] at run
      refine wpAny_bind (wpAny_pure (wpAny_bind (wpAny_mono run (fun r s' hr => ?_) fun _ _ e => e)))
      obtain ⟨ho, hf, rfl⟩ := hr
      exact srt_tail (st := r.2) (vs := outOf Value.none kz vs) D F N hz64 (by rw [outOf, if_neg hz2, List.length_map, hps, hlen]; exact h64) ho hf h
    · rw [a2, Array.map_map, Array.toList_map, outOf, if_neg hz2, ← a4.1]
      refine List.map_congr_left fun i hi => ?_
      show (kas_item (keys.zip vs.toArray) i).2 = vs.getD i Value.none
      by_cases hlt : i < kz.length
      · exact (keys_at hk hlen hlt).elim fun _ x => x.2
      · have hv : vs.length ≤ i := hlen ▸ Nat.le_of_not_lt hlt
        have hm : ¬ i < min keys.size vs.length := fun q => Nat.not_lt_of_le hv (Nat.lt_of_lt_of_le q (Nat.min_le_right _ _))
        simp [kas_item, Array.getD, hm, hv]
    · unfold kas_cmp
      obtain ⟨t1, e1, _⟩ := keys_at hk hlen hi
      obtain ⟨t2, e2, _⟩ := keys_at hk hlen hj
      rw [e1, e2]
      exact kat_lt_int hC
theorem srt_rest {f : Value} (D : SrtD kS a news) (F : Fr h₀ L s.heap m) (N : News h₀ L s.heap (srtL kS a #[] #[] 0 e1 news)) (hlen : kz.length = vs.length) (h64 : vs.length < 64) (hok : permOk kz = true) (hps : (permOf kz).length = kz.length)
    (turn : ∀ (i : Nat) (v : Value) (k : Int), vs[i]? = some v → kz[i]? = some k → ∀ (g : Heap) (tk : Nat) (need : List (Addr × Obj)), Fr h₀ L g m → News h₀ L g need → wpAny (model prog w) A (call f [v]) (KskEnd h₀ L m need k { s with heap := g, toks := tk }) (fun _ _ => False) { s with heap := g, toks := tk })
    (h : ∀ h' tk c, Fr h₀ L h' m → News h₀ L h' ((a, seqObj "list" (outOf Value.none kz vs).toArray c) :: news) → P (.done (.ret .none)) { s with heap := h', toks := tk }) : wpAny (model prog w) A (ksk_rest a f false vs.toArray e1 (.ref kS)) P E s := by
  unfold ksk_rest
  refine wpAny_bind (wpAny_rule ?_)
  rw [List.forIn_toArray]
  refine wpAny_bind (ksk_fold (fun i s' => ∃ g tk K c, s' = { s with heap := g, toks := tk } ∧ IntsAre K.toList (kz.take i) ∧ Fr h₀ L g m ∧ News h₀ L g (srtL kS a K #[] c e1 news)) vs 0 s ⟨s.heap, s.toks, #[], 0, rfl, .nil, F, N⟩ (fun j x s' hx hI => ?_) fun s' hI => ?_)
  · obtain ⟨g, tk, K, c, rfl, hK, F1, N1⟩ := hI
    rw [Nat.zero_add] at hK
    rw [Nat.zero_add]
    have hj : j < kz.length := hlen ▸ (List.getElem?_eq_some_iff.mp hx).1
    have hK64 : K.size < 64 := Nat.lt_of_le_of_lt (Nat.le_trans (Nat.le_of_eq hK.length) (List.length_take_le' ..)) (hlen ▸ h64)
    refine wpAny_bind (wpAny_attempt (wpAny_mono (turn j x kz[j] hx (List.getElem?_eq_getElem hj) g tk _ F1 N1) (fun v s'' hv => ?_) fun _ _ q => q.elim))
    obtain ⟨g2, tk2, t2, rfl, rfl, F2, N2⟩ := hv
    refine wpAny_bind (srt_keys (s := { s with heap := g2, toks := tk2 }) D F2 N2 (fit_64 hK64) ?_ fun g3 c3 F3 N3 => wpAny_pure ⟨rfl, g3, tk2, _, c3, rfl, ?_, F3, N3⟩)
    · rw [Array.size_push]; exact Nat.le_succ_of_le (Nat.le_trans hK64 (by decide))
    · rw [Array.toList_push, ← List.take_append_getElem hj]
      exact ksk_snoc hK
  · obtain ⟨g, tk, K, c, rfl, hK, F1, N1⟩ := hI
    rw [Nat.zero_add, ← hlen, List.take_length] at hK
    refine wpAny_bind (listItems_at (N1 _ (.head _)).1 rfl ?_)
    exact srt_end (s := { s with heap := g, toks := tk }) D F1 N1 hK hlen h64 hok hps fun h' tk' => h h' tk'
theorem srt_sort {f : Value} {n : Nat} (F : Fr h₀ L s.heap m) (N : News h₀ L s.heap ((a, seqObj "list" vs.toArray n) :: news)) (hna : ∀ p ∈ news, p.1 ≠ a) (hlen : kz.length = vs.length) (h64 : vs.length < 64) (hok : permOk kz = true) (hps : (permOf kz).length = kz.length)
    (turn : ∀ (i : Nat) (v : Value) (k : Int), vs[i]? = some v → kz[i]? = some k → ∀ (g : Heap) (tk : Nat) (need : List (Addr × Obj)), Fr h₀ L g m → News h₀ L g need → wpAny (model prog w) A (call f [v]) (KskEnd h₀ L m need k { s with heap := g, toks := tk }) (fun _ _ => False) { s with heap := g, toks := tk })
    (h : ∀ h' tk c, Fr h₀ L h' m → News h₀ L h' ((a, seqObj "list" (outOf Value.none kz vs).toArray c) :: news) → P (.done (.ret .none)) { s with heap := h', toks := tk }) : wpAny (model prog w) A (ksk_tree a f false) P E s := by
  have o := N _ (.head _)
  have sb := Heap.SameBut.update s.heap a (Obj.mapSeq fun _ => (#[] : Array Value))
  have N1 := N.setHead hna sb (get?_update_seq o.1 fun _ => #[])
  have hv : vs.length ≤ sizeLine := line_le (fit_64 h64)
  unfold ksk_tree
  refine wpAny_bind (listItems_at o.1 rfl (wpAny_bind (listUpdate_at o.1 rfl ?_ hv (Nat.zero_le _))))
  refine wpAny_bind (seqEpoch_at (N1 _ (.head _)).1 rfl (wpAny_bind ?_))
  refine newTuple_N (s := { s with heap := s.heap.update a (Obj.mapSeq fun _ => (#[] : Array Value)) }) (F.change sb o.2.1 o.2.2) N1 (fun h2 F2 N2 => wpAny_bind ?_) hv
  have N3 := N2.perm fun _ hp => .tail _ hp
  exact newList_N (s := { s with heap := h2 }) F2 N3 (fun h3 F3 N4 => wpAny_holding (srt_rest (s := { s with heap := h3 }) ⟨(N3.apart _ (.head _)).symm, fun p hp => N3.apart p (.tail _ hp), hna⟩ F3 N4 hlen h64 hok hps turn h)) (Nat.zero_le _)
theorem srt_sorted {q l : Addr} {Q : Value → Shared → Prop} (F : Fr h₀ L s.heap m) (N : News h₀ L s.heap news) (hl : s.heap.IsList l vs.toArray) (hlen : kz.length = vs.length) (h64 : vs.length < 64) (hok : permOk kz = true) (hps : (permOf kz).length = kz.length)
    (turn : ∀ (i : Nat) (v : Value) (k : Int), vs[i]? = some v → kz[i]? = some k → ∀ (g : Heap) (tk : Nat) (need : List (Addr × Obj)), Fr h₀ L g m → News h₀ L g need → wpAny (model prog w) A.in1.in1 (call (.ref q) [v]) (KskEnd h₀ L m need k { s with heap := g, toks := tk }) (fun _ _ => False) { s with heap := g, toks := tk })
    (h : ∀ D h' tk c, Fr h₀ L h' m → News h₀ L h' ((D, seqObj "list" (outOf Value.none kz vs).toArray c) :: news) → (∀ q ∈ news, q.1 < D) → Q (.ref D) { s with heap := h', toks := tk }) : wpAny (model prog w) A (call (.builtin "sorted") [.ref l] [(Str.ofString "key", .ref q)]) Q E s := by
  have hv : vs.length ≤ sizeLine := line_le (fit_64 h64)
  refine call_function_entry_kw kind_sorted plain_sorted entry_sorted (ksk_s1 _ _) ?_
  unfold Builtin.«sorted»
  refine wpAny_bind (m := checkCount "sorted" 1 1 _) (wpAny_pure (wpAny_bind (collect_list hl (wpAny_bind ?_) hv)))
  have sb := Heap.SameBut.update (s.heap.push (seqObj "list" #[] 0)) s.heap.objs.size (Obj.mapSeq (· ++ vs.toArray))
  have N1 := ksk_news (N.pushKeep (seqObj "list" #[] 0)) sb N.apart
  refine newList_N (s := { s with heap := (s.heap.push (seqObj "list" #[] 0)).update s.heap.objs.size (Obj.mapSeq (· ++ vs.toArray)) }) ((F.push _).change sb (Nat.ne_of_gt F.ns.lt) F.fresh) N1 (fun h2 F2 N2 => wpAny_bind (wpAny_holding ?_)) hv
  refine wpAny_call_entry_kw slot_list_sort ⟨_, (N2 _ (.head _)).1, rfl⟩ entry_list_sort ?_ (ksk_l1 _ _)
  show wpAny (model prog w) A.in1.in1 (Builtin.«list.sort» ⟨[.ref _], [(Str.ofString "key", .ref q)]⟩) _ _ _
  rw [ksk_t1]
  exact srt_sort (s := { s with heap := h2 }) F2 N2 N1.apart hlen h64 hok hps turn fun h' tk c F' N' => ⟨_, rfl, wpAny_pure ⟨_, rfl, h _ h' tk c F' N' fun p hp => Heap.lt_size (N1 p hp).1⟩⟩
end
end
section
noncomputable def halfM (m : Nat) : Nat → Nat
  | 0 => 0
  | k + 1 => halfM m k + (m / 2 ^ (2 * k) % 2) * 2 ^ k
noncomputable def halfOf (n sz : Nat) : Nat := halfM (n / 2 &&& 1365) sz
noncomputable def placeOf (a stp sz i : Nat) : Nat := (a + i * stp) % sz
noncomputable def numOf (wh sz pl : Nat) : Nat := 256 * (halfOf (wh * 2 ^ pl) sz ^^^ 2 ^ pl) + 2 ^ pl
noncomputable def rowIn (rs : List Nat) (n : Nat) : List Nat := rs.take (layR (keysOf rs) (bl (n / 256))) ++ n :: rs.drop (layR (keysOf rs) (bl (n / 256)))
noncomputable def step1 (st : List Nat × List Nat) (n : Nat) : List Nat × List Nat := if (lay 9 st.1 n).2 = true then (rowIn st.1 (lay 9 st.1 n).1, st.2) else (st.1, st.2 ++ [(lay 9 st.1 n).1])
noncomputable def st1 (wh sz a stp : Nat) : Nat → List Nat × List Nat
  | 0 => ([], [])
  | i + 1 => step1 (st1 wh sz a stp i) (numOf wh sz (placeOf a stp sz i))
noncomputable def spanOf (ks : List Nat) : List Nat := ks.foldl (fun sp l => sp ++ sp.map fun e => l ^^^ e) [0]
noncomputable def partOf (wh e : Nat) : Nat := quo wh (common wh e)
noncomputable def insL (xs : List Nat) (x : Nat) : List Nat := xs.take (layL (xs.map bl) (bl x)) ++ x :: xs.drop (layL (xs.map bl) (bl x))
noncomputable def insR (xs : List Nat) (x : Nat) : List Nat := xs.take (layR (xs.map bl) (bl x)) ++ x :: xs.drop (layR (xs.map bl) (bl x))
noncomputable def sortedB : List Nat → Bool
  | [] => true
  | [_] => true
  | a :: b :: r => Nat.ble a b && sortedB (b :: r)
theorem sortedB_le : ∀ {l : List Nat}, sortedB l = true → l.Pairwise (· ≤ ·)
  | [], _ => .nil
  | [_], _ => .cons (fun _ h => nomatch h) .nil
  | a :: b :: r, h => by
    simp only [sortedB, Bool.and_eq_true] at h
    have ih := sortedB_le h.2
    have hab := Nat.le_of_ble_eq_true h.1
    refine .cons (fun c hc => ?_) ih
    rcases List.mem_cons.mp hc with rfl | hc
    · exact hab
    · exact Nat.le_trans hab ((List.pairwise_cons.mp ih).1 c hc)
noncomputable def okRow (st : List Nat × List Nat) : Bool := sortedB (keysOf st.1) && (st.1.all (fun n => Nat.blt n 65536 && Nat.ble 256 n) && Nat.blt st.1.length 100)
noncomputable def okRows (wh sz a stp : Nat) : Nat → List Nat × List Nat → Nat → Bool
  | 0, st, _ => okRow st
  | k + 1, st, i => okRow st && (Nat.blt (numOf wh sz (placeOf a stp sz i)) 65536 && okRows wh sz a stp k (step1 st (numOf wh sz (placeOf a stp sz i))) (i + 1))
noncomputable def blInts (l : List Nat) : List Int := l.map fun n => ((bl n : Nat) : Int)
noncomputable def okIns (f : List Nat → Nat → List Nat) : List Nat → List Nat → Bool
  | acc, [] => sortedB (acc.map bl)
  | acc, x :: r => sortedB (acc.map bl) && okIns f (f acc x) r
noncomputable def okFound (wh : Nat) (fs : List Nat) : Bool :=
  okIns insL [] fs && (okIns insR [] fs && (fs.all (fun x => Nat.blt x 128) && (permOk (blInts fs) && (permOk (blInts fs.reverse) &&
    (Nat.beq (permOf (blInts fs)).length fs.length && (Nat.beq (permOf (blInts fs.reverse)).length fs.length &&
    (decide (fs.foldl insL [] = outOf 0 (blInts fs.reverse) fs.reverse) && (decide (fs.foldl insR [] = outOf 0 (blInts fs) fs) && fs.isPerm (prodEnd wh)))))))))
noncomputable def okKept (wh sz : Nat) (ks : List Nat) : Bool :=
  ks.all (fun l => Nat.blt l (2 ^ sz) && Nat.beq (halfOf (timesTo wh l 7) sz) l) && (Nat.blt ks.length 6 && ((spanOf ks).all (fun e => Nat.blt e 128) && okFound wh ((spanOf ks).map (partOf wh))))
noncomputable def chk1 (wh sz a stp : Nat) : Bool := okRows wh sz a stp sz ([], []) 0
noncomputable def chk2 (wh sz a stp : Nat) : Bool := okKept wh sz (st1 wh sz a stp sz).2
noncomputable def waysOf (sz : Nat) : List (Nat × Nat) := (List.range sz).flatMap fun a => [(a, 1), (a, sz - 1)]
noncomputable def keptOf (wh sz : Nat) : List (List Nat) := ((waysOf sz).map fun p => (st1 wh sz p.1 p.2 sz).2).eraseDups
noncomputable def chkA (wh : Nat) : Bool := (waysOf (bl wh - 1)).all fun p => chk1 wh (bl wh - 1) p.1 p.2
noncomputable def chkB (wh : Nat) : Bool := (keptOf wh (bl wh - 1)).all fun ks => okKept wh (bl wh - 1) ks
end
section
theorem halfM_lt (m : Nat) : ∀ k, halfM m k < 2 ^ k
  | 0 => by simp [halfM]
  | k + 1 => by
    have := halfM_lt m k
    have h2 : m / 2 ^ (2 * k) % 2 < 2 := Nat.mod_lt _ (by decide)
    have h3 : (m / 2 ^ (2 * k) % 2) * 2 ^ k ≤ 1 * 2 ^ k := Nat.mul_le_mul_right _ (by omega)
    rw [halfM, Nat.pow_succ]
    omega
theorem halfM_bit (m : Nat) : ∀ k i, i < k → halfM m k / 2 ^ i % 2 = m / 2 ^ (2 * i) % 2
  | 0, _, h => nomatch h
  | k + 1, i, h => by
    rw [halfM]
    by_cases hi : i = k
    · subst hi
      rw [Nat.add_mul_div_right _ _ (Nat.two_pow_pos i), Nat.div_eq_of_lt (halfM_lt m i), Nat.zero_add, Nat.mod_mod]
    · have hlt : i < k := by omega
      obtain ⟨d, rfl⟩ : ∃ d, k = i + (d + 1) := ⟨k - i - 1, by omega⟩
      have e : (m / 2 ^ (2 * (i + (d + 1))) % 2) * 2 ^ (i + (d + 1)) = ((m / 2 ^ (2 * (i + (d + 1))) % 2) * 2 ^ d * 2) * 2 ^ i := by
        rw [Nat.pow_add, Nat.pow_succ]
        simp only [Nat.mul_assoc, Nat.mul_comm, Nat.mul_left_comm]
      rw [e, Nat.add_mul_div_right _ _ (Nat.two_pow_pos i), Nat.add_mul_mod_self_right, halfM_bit m _ i hlt]
theorem scan_pc {n c i : Nat} (hc : c ≠ 34) (r : List Nat) : scan (pc n c i ++ r) = pc n c i ++ scan r := by
  unfold pc
  split
  · rw [List.cons_append, List.nil_append]
    conv => lhs; unfold scan
    rw [if_neg hc]; rfl
  · rfl
theorem scan_qq (r : List Nat) : scan (34 :: 34 :: r) = 34 :: scan r := by
  conv => lhs; unfold scan
  simp
theorem scan_tail {tl : List Nat} (h : tl ∈ tailsL) : scan tl = [] := by
  simp only [tailsL, List.mem_cons, List.not_mem_nil, or_false] at h
  rcases h with rfl | rfl | rfl <;> simp [scan]
theorem odd_1365 (j : Nat) : Nat.testBit 1365 (2 * j + 1) = false := by
  by_cases h : j < 5
  · exact (by decide : ∀ j, j < 5 → Nat.testBit 1365 (2 * j + 1) = false) j h
  · exact Nat.testBit_lt_two_pow (Nat.lt_of_lt_of_le (show 1365 < 2 ^ 11 by decide) (Nat.pow_le_pow_right (by decide) (by omega)))
theorem odd_zero (n j : Nat) : (n &&& 1365) / 2 ^ (2 * j + 1) % 2 = 0 := by
  have h : Nat.testBit (n &&& 1365) (2 * j + 1) = false := by rw [Nat.testBit_and, odd_1365, Bool.and_false]
  rw [Nat.testBit_eq_decide_div_mod_eq] at h
  have := of_decide_eq_false h
  exact (Nat.mod_two_eq_zero_or_one _).resolve_right this
theorem told_from {m hf c : Nat} {tl : List Nat} (hc : c ≠ 34) (ht : scan tl = []) (ho : ∀ j, m / 2 ^ (2 * j + 1) % 2 = 0) : ∀ k i, (∀ j, i ≤ j → j ≤ i + k → hf / 2 ^ j % 2 = m / 2 ^ (2 * j) % 2) → scan (txtFrom m c (2 * k) (2 * i) ++ tl) = txtFrom hf c k i
  | 0, i, h => by
    show scan (pc m c (2 * i) ++ tl) = pc hf c i
    rw [scan_pc hc, ht, List.append_nil]
    unfold pc
    rw [h i (Nat.le_refl _) (Nat.le_refl _)]
  | k + 1, i, h => by
    have ih := told_from hc ht ho k (i + 1) fun j h1 h2 => h j (by omega) (by omega)
    have e1 : pc m c (2 * i + 1) = [] := by
      unfold pc; rw [if_neg]; rw [ho i]; decide
    have e2 : pc m c (2 * i) = pc hf c i := by unfold pc; rw [h i (Nat.le_refl _) (by omega)]
    show scan ((pc m c (2 * i) ++ 34 :: (pc m c (2 * i + 1) ++ 34 :: txtFrom m c (2 * k) (2 * i + 1 + 1))) ++ tl) = pc hf c i ++ 34 :: txtFrom hf c k (i + 1)
    rw [e1, List.nil_append, List.append_assoc, scan_pc hc, List.cons_append, List.cons_append, scan_qq, e2]
    rw [show 2 * i + 1 + 1 = 2 * (i + 1) by omega, ih]
theorem told_txt {n sz c : Nat} {tl : List Nat} (hc : c ≠ 34) (ht : tl ∈ tailsL) (hs : 0 < sz) : scan (txt (n / 2 &&& 1365) (2 * sz - 2) c ++ tl) = txt (halfOf n sz) (sz - 1) c := by
  have e : 2 * sz - 2 = 2 * (sz - 1) := (Nat.mul_sub 2 sz 1).symm
  rw [e]
  exact told_from hc (scan_tail ht) (odd_zero (n / 2)) (sz - 1) 0 fun j _ h2 => halfM_bit _ sz j (by omega)
theorem told2_spec (w : World) (n sz c : Nat) (tl : List Nat) {x y : Int} (t1 t2 t3 t4 : Tok) (hx : x = (n : Int)) (hy : y = (sz : Int)) (hc : c ≠ 34) (hs : 4 ≤ sz) (h2 : sz ≤ 6) (ht : tl ∈ tailsL) :
    Spec 8 w 153 [.int x t1, .int y t2, .str (ofL [c]) t3, .str (ofL tl) t4] (fun _ => True) [] (fun r _ => ∃ t, r = .str (ofL (txt (halfOf n sz) (sz - 1) c)) t) := by
  subst hx; subst hy
  have := tails_len ht
  rw [← told_txt hc ht (by omega)]
  exact told_spec w n sz c tl t1 t2 t3 t4 (by omega) (by omega) (by omega)
theorem half_number (n sz : Nat) (h : 0 < sz) : halfOf n sz % 2 ^ (sz - 1 + 1) = halfOf n sz := by
  rw [show sz - 1 + 1 = sz by omega]
  exact Nat.mod_eq_of_lt (halfM_lt _ _)
theorem told3_spec {b : Nat} {w : World} {f : Addr} {vs : List Value} {kw : List (Str × Value)} {P : Heap → Prop} {n k sz c : Nat} (e : n = k) (S : SpecK b w f vs kw P [] (fun r _ => ∃ t, r = .str (ofL (txt n sz c)) t)) : SpecK b w f vs kw P [] (fun r _ => ∃ t, r = .str (ofL (txt k sz c)) t) := e ▸ S
theorem number2_spec (w : World) (n sz c : Nat) (t1 : Tok) (hc : c ≠ 34) (hs : 4 ≤ sz) (h2 : sz ≤ 6) :
    Spec 4 w 146 [.str (ofL (txt (halfOf n sz) (sz - 1) c)) t1] (fun _ => True) [] (fun r _ => ∃ t, r = .int (halfOf n sz : Nat) t) := by
  have := number_spec w (halfOf n sz) (sz - 1) c t1 hc (by omega)
  rw [half_number n sz (by omega)] at this
  exact this
end
section
noncomputable abbrev tupO (n : Nat) (t1 t2 : Tok) : Obj := { cls := .type "tuple", data := .seq #[.int (bl (n / 256) : Nat) t1, .int (n : Nat) t2] }
noncomputable def TabL (ps : Array Value) (tups : List (Addr × Obj)) : Prop := ps = #[] ∨ ∃ c' oc vs t, ps = #[rawInt 138, rawInt 12, .ref c'] ∧ (c', oc) ∈ tups ∧ oc.data = .fields vs ∧ vs[1]? = some (.str lamQual t)
noncomputable def RowsIn (rws : List (Addr × Nat)) (tups : List (Addr × Obj)) : Prop := ∀ p ∈ rws, ∃ t1 t2, (p.1, tupO p.2 t1 t2) ∈ tups
noncomputable def OffT (ds : List Addr) (tups : List (Addr × Obj)) : Prop := ∀ q ∈ tups, ∀ d ∈ ds, q.1 ≠ d
structure Dist (I kA cell rA : Nat) : Prop where
  ik : I ≠ kA
  ic : I ≠ cell
  ir : I ≠ rA
  i1 : I ≠ 160
  kc : kA ≠ cell
  kr : kA ≠ rA
  k1 : kA ≠ 160
  cr : cell ≠ rA
  c1 : cell ≠ 160
  r1 : rA ≠ 160
section
variable {w : World} {I kA cell rA : Addr} {it ok oc : Obj} {rws : List (Addr × Nat)} {nR num bel : Nat} {ps : Array Value} {tups : List (Addr × Obj)}
    {p : Program} {loose : List Str} {mean : ExcName → Option Value} {mg mb : Str → Option Value} {dp un : Nat} {gd : Option (List Code)} {cn : Str} {cs : Scope} {a : Addr} {ccd : Value} {cl : List (Str × Addr)} {outer : List Env} {A₀ : Around} {base h₀ : Heap} {L : Addr} {m : Str → Option Value} {s : Shared} {Q E : Value → Shared → Prop} {x y : Int} {t1 t2 : Tok}
theorem laid_use (hx : x = (num : Int)) (hy : y = (bel : Int)) (B : Below A₀ base outer h₀) (F : Fr h₀ L s.heap m) (X : (hd.heap_39 w.params).In h₀)
    (N : News h₀ L s.heap ((I, it) :: (kA, ok) :: (cell, oc) :: (rA, listOf (refsOf rws).toArray nR) :: (160, tabObj ps) :: tups)) (T : Top p loose mean mg mb h₀) (hk : cs.kind = .function) (hdp : dp + 20 < recursionLimit) (hun : un + 16 * 20 < cLine)
    (hc : CodeHd h₀ 164 160) (D : Dist I kA cell rA) (ho : OffT [I, kA, cell, rA, 160] tups) (hr : RowsIn rws tups) (ht : TabL ps tups)
    (hs : sortedB (keysOf (rws.map (·.2))) = true) (hb : ∀ q ∈ rws, q.2 < 65536) (hlen : rws.length < 100) (hnum : num < 65536) (hbel : bel ≤ 255)
    (h1 : (lay 9 (rws.map (·.2)) num).2 = false → ∀ t h' tk' ps' tups', Fr h₀ L h' m → News h₀ L h' ((I, it) :: (kA, ok) :: (cell, oc) :: (rA, listOf (refsOf rws).toArray nR) :: (160, tabObj ps') :: tups') →
      OffT [I, kA, cell, rA, 160] tups' → RowsIn rws tups' → TabL ps' tups' → Q (.int ((lay 9 (rws.map (·.2)) num).1 : Nat) t) { s with heap := h', toks := tk' })
    (h2 : (lay 9 (rws.map (·.2)) num).2 = true → ∀ h' tk' ps' tups' rws', Fr h₀ L h' m → News h₀ L h' ((I, it) :: (kA, ok) :: (cell, oc) :: (rA, listOf (refsOf rws').toArray (nR + 1)) :: (160, tabObj ps') :: tups') →
      OffT [I, kA, cell, rA, 160] tups' → RowsIn rws' tups' → TabL ps' tups' → rws'.map (·.2) = rowIn (rws.map (·.2)) (lay 9 (rws.map (·.2)) num).1 → Q .none { s with heap := h', toks := tk' }) :
    wpAny (model PySem.Challenge.rw_ux0013_01.row.prog w) (ktrTop dp un gd cn cs L a ccd cl outer) (call (.ref 165) [.ref rA, .int x t1, .int y t2]) Q E s := by
  rw [hx, hy]
  clear hx hy
  have nd : ∀ q ∈ [(rA, listOf (refsOf rws).toArray nR), (160, tabObj ps)], q ∈ (I, it) :: (kA, ok) :: (cell, oc) :: (rA, listOf (refsOf rws).toArray nR) :: (160, tabObj ps) :: tups := by
    exact fun q hq => mem_nd hq
  have inT : ∀ q ∈ tups, q ∈ (I, it) :: (kA, ok) :: (cell, oc) :: (rA, listOf (refsOf rws).toArray nR) :: (160, tabObj ps) :: tups := fun q hq => mem_t5 hq
  have offn : ∀ q ∈ tups, ∀ z ∈ [(rA, listOf (refsOf rws).toArray nR), (160, tabObj ps)], q.1 ≠ z.1 := by
    intro q hq z hz
    simp only [List.mem_cons, List.not_mem_nil, or_false] at hz
    rcases hz with rfl | rfl
    · exact ho q hq rA (.tail _ (.tail _ (.tail _ (.head _))))
    · exact ho q hq 160 (.tail _ (.tail _ (.tail _ (.tail _ (.head _)))))
  refine spec_use _ ((I, it) :: (kA, ok) :: (cell, oc) :: tups) (laid_spec w rA rws nR num bel t1 t2 ps D.r1 (sortedB_le hs) hb hlen hnum hbel) B F X N T hk hdp hun nd ?_ ?_ ?_
  · intro q hq
    refine ⟨mem_rest hq, ?_⟩
    · intro z hz
      simp only [List.mem_cons, List.not_mem_nil, or_false] at hz
      rcases List.mem_cons.mp hq with rfl | hq
      · rcases hz with rfl | rfl
        · exact D.ir
        · exact D.i1
      rcases List.mem_cons.mp hq with rfl | hq
      · rcases hz with rfl | rfl
        · exact D.kr
        · exact D.k1
      rcases List.mem_cons.mp hq with rfl | hq
      · rcases hz with rfl | rfl
        · exact D.cr
        · exact D.c1
      · exact offn q hq z (by simp only [List.mem_cons, List.not_mem_nil, or_false]; exact hz)
  · refine ⟨⟨hc.keeps (kept_sans F N nd), fun q hq => ?_⟩, ?_⟩
    · obtain ⟨u1, u2, hm⟩ := hr q hq
      exact ⟨u1, u2, _, sans_get (N _ (inT _ hm)).1 (offn _ hm), rfl, _, rfl⟩
    · rcases ht with e | ⟨c', ob, vs, t, e, hm, d1, d2⟩
      · exact .inl e
      · exact .inr ⟨c', e, c', ob, vs, t, rfl, sans_get (N _ (inT _ hm)).1 (offn _ hm), d1, d2⟩
  · intro r nx h' tk' F' N' _ hd' hR
    refine shut fun G0 hG => ?_
    obtain ⟨ps', nx', tn, on, hcase⟩ := hR
    have nx_off : ∀ nx0 : List (Addr × Obj), nx = nx0 ++ nx' → OffT [I, kA, cell, rA, 160] (nx' ++ tups) := by
      intro nx0 e q hq d hd
      rcases List.mem_append.mp hq with hq | hq
      · have hq' : q ∈ nx := by rw [e]; exact List.mem_append_right _ hq
        simp only [List.mem_cons, List.not_mem_nil, or_false] at hd
        rcases hd with rfl | rfl | rfl | rfl | rfl
        · exact hd' q hq' (d, it) (.head _)
        · exact hd' q hq' (d, ok) (.tail _ (.head _))
        · exact hd' q hq' (d, oc) (.tail _ (.tail _ (.head _)))
        · exact (on q hq).1
        · exact (on q hq).2
      · exact ho q hq d hd
    have rows_in : RowsIn rws (nx' ++ tups) := fun q hq => by
      obtain ⟨u1, u2, hm⟩ := hr q hq
      exact ⟨u1, u2, List.mem_append_right _ hm⟩
    have tab_in : TabL ps' (nx' ++ tups) := by
      rcases tn with ⟨hne, e0⟩ | ⟨c', ob, vs, t, e, hm, d1, d2⟩
      · rcases ht with h | ⟨c', ob, vs, t, e, hm, d1, d2⟩
        · exact absurd h hne
        · exact .inr ⟨c', ob, vs, t, e0.trans e, List.mem_append_right _ hm, d1, d2⟩
      · exact .inr ⟨c', ob, vs, t, e, List.mem_append_left _ hm, d1, d2⟩
    rcases hcase with ⟨hl, ⟨t, er⟩, en⟩ | ⟨hl, er, b, u1, u2, hm, en⟩
    · refine hG ?_
      rw [er]
      rw [en] at N'
      refine h1 hl t h' tk' ps' (nx' ++ tups) F' (news_sub N' ?_) (nx_off [(rA, listOf (refsOf rws).toArray nR), (160, tabObj ps')] en) rows_in tab_in
      exact fun q hq => mem_back hq
    · refine hG ?_
      rw [er]
      rw [en] at N'
      refine h2 hl h' tk' ps' (nx' ++ tups) (rws.take (layR (keysOf (rws.map (·.2))) (bl ((lay 9 (rws.map (·.2)) num).1 / 256))) ++ (b, (lay 9 (rws.map (·.2)) num).1) :: rws.drop (layR (keysOf (rws.map (·.2))) (bl ((lay 9 (rws.map (·.2)) num).1 / 256)))) F' (news_sub N' ?_)
        (nx_off [(rA, _), (160, tabObj ps')] en) ?_ tab_in ?_
      · exact fun q hq => mem_back hq
      · intro q hq
        rcases List.mem_append.mp hq with hq | hq
        · exact rows_in q (List.mem_of_mem_take hq)
        rcases List.mem_cons.mp hq with rfl | hq
        · exact ⟨u1, u2, List.mem_append_left _ hm⟩
        · exact rows_in q (List.mem_of_mem_drop hq)
      · simp [rowIn, List.map_take, List.map_drop]
end
end
section
theorem ifexp_join {M : Model} {A : Around} {E : Value → Shared → Prop} {s : Shared} {env : Env} {test b o : PySem.Expr} {pos : Pos} {Q : Value → Shared → Prop} (k : Nat)
    (h1 : wpAny M A (isTrue test env (eval test env)) (fun c s₁ => if c = true then wpAny M A (eval b env) (fun v s' => ∃ t tk, v = .int (k : Int) t ∧ s' = { s with toks := tk }) E s₁ else wpAny M A (eval o env) (fun v s' => ∃ t tk, v = .int (k : Int) t ∧ s' = { s with toks := tk }) E s₁) E s)
    (h2 : ∀ t tk, Q (.int (k : Int) t) { s with toks := tk }) : wpAny M A (eval (.IfExp b test o pos) env) Q E s ∨ wpAny M A (eval (.IfExp test b o pos) env) Q E s :=
  .inr (wpAny_mono (IfExp_ h1) (fun v s' q => by obtain ⟨t, tk, rfl, rfl⟩ := q; exact h2 t tk) fun _ _ e => e)
noncomputable def stpOf (way : Int) (sz : Nat) : Nat := if Int.fmod way 2 = 0 then 1 else sz - 1
theorem off_of {ds : List Addr} {tups : List (Addr × Obj)} {d : Addr} (h : OffT ds tups) (hd : d ∈ ds) : ∀ p ∈ tups, p.1 ≠ d := fun p hp => h p hp d hd
noncomputable def Near (m0 m : Str → Option Value) : Prop := ∀ y, y ≠ Str.ofString "turn" → y ≠ Str.ofString "place" → y ≠ Str.ofString "line" → m y = m0 y
theorem near_self (m0 : Str → Option Value) : Near m0 m0 := fun _ _ _ _ => rfl
theorem near_eq {m0 m : Str → Option Value} (h : Near m0 m) : m = fun y => if y = Str.ofString "turn" then m (Str.ofString "turn") else if y = Str.ofString "place" then m (Str.ofString "place") else if y = Str.ofString "line" then m (Str.ofString "line") else m0 y := by
  funext y
  by_cases h1 : y = Str.ofString "turn"
  · rw [if_pos h1, h1]
  by_cases h2 : y = Str.ofString "place"
  · rw [if_neg h1, if_pos h2, h2]
  by_cases h3 : y = Str.ofString "line"
  · rw [if_neg h1, if_neg h2, if_pos h3, h3]
  · rw [if_neg h1, if_neg h2, if_neg h3]; exact h y h1 h2 h3
theorem near_end {m0 : Str → Option Value} {v1 v2 v3 u1 u2 u3 : Option Value} : Near m0 (fun y => if y = Str.ofString "line" then v3 else if y = Str.ofString "place" then v2 else if y = Str.ofString "turn" then v1 else if y = Str.ofString "turn" then u1 else if y = Str.ofString "place" then u2 else if y = Str.ofString "line" then u3 else m0 y) := fun y h1 h2 h3 => by
  show (if y = Str.ofString "line" then v3 else if y = Str.ofString "place" then v2 else if y = Str.ofString "turn" then v1 else if y = Str.ofString "turn" then u1 else if y = Str.ofString "place" then u2 else if y = Str.ofString "line" then u3 else m0 y) = m0 y
  rw [if_neg h3, if_neg h2, if_neg h1, if_neg h1, if_neg h2, if_neg h3]
noncomputable def J1 (st : List Nat × List Nat) (I kA cell rA : Addr) (m0 m : Str → Option Value) (news : List (Addr × Obj)) : Prop :=
  Near m0 m ∧ ∃ rws vs nK nR oc vc ps tups, SubL [(kA, listOf (List.toArray vs) nK), (cell, oc), (rA, listOf (List.toArray (refsOf rws)) nR), (160, tabObj ps)] news ∧ (∀ q ∈ tups, q ∈ news) ∧ oc.data = .cell vc ∧ rws.map (·.2) = st.1 ∧ IntsAre vs (natInts st.2) ∧
    OffT [I, kA, cell, rA, 160] tups ∧ RowsIn rws tups ∧ TabL ps tups
section
variable {prog : Program} {w : World} {A : Around} {E : Value → Shared → Prop} {Q : Flow → Shared → Prop} {s : Shared} {env : Env} {h₀ : Heap} {body : List Stmt}
theorem loop1 {n : Nat} {I kA cell rA : Addr} {m0 : Str → Option Value} {news0 : List (Addr × Obj)} {oc0 : Obj} {vc0 : Option Value} {n1 n2 : Nat} (S : Nat → List Nat × List Nat) (hS0 : S 0 = ([], [])) (_hr : m0 (Str.ofString "rows") = some (.ref rA)) (_hk : m0 (Str.ofString "kept") = some (.ref kA)) {Lx : Addr} {hx : Heap} {mx : Str → Option Value} (_F : Fr h₀ Lx hx mx) (_hc : cell = Lx + 1) (D : Dist I kA cell rA)
    (hn0 : SubL [(kA, listOf #[] n1), (cell, oc0), (rA, listOf #[] n2), (160, tabObj #[])] news0) (d0 : oc0.data = .cell vc0)
    (turn : ∀ i t h tk rws vs nK nR oc vc ps tups u1 u2 u3, Dist I kA cell rA → i < n → rws.map (·.2) = (S i).1 → IntsAre vs (natInts (S i).2) → oc.data = .cell vc → OffT [I, kA, cell, rA, 160] tups → RowsIn rws tups → TabL ps tups →
      Fr h₀ env.locals h (fun y => if y = Str.ofString "turn" then some (.int (0 + (i : Int)) t) else if y = Str.ofString "turn" then u1 else if y = Str.ofString "place" then u2 else if y = Str.ofString "line" then u3 else m0 y) →
      News h₀ env.locals h ((I, itR (0 + ((i + 1 : Nat) : Int)) ((n : Int) - ((i + 1 : Nat) : Int))) :: (kA, listOf (List.toArray vs) nK) :: (cell, oc) :: (rA, listOf (List.toArray (refsOf rws)) nR) :: (160, tabObj ps) :: tups) →
      wpAny (model prog w) A (execs body env) (UnrPost h₀ env.locals { s with heap := h, toks := tk } I (itR (0 + ((i + 1 : Nat) : Int)) ((n : Int) - ((i + 1 : Nat) : Int))) (J1 (S (i + 1)) I kA cell rA m0) Q) E { s with heap := h, toks := tk })
    (fin : ∀ h tk rws vs nK nR oc vc ps tups u1 u2 u3, Dist I kA cell rA → rws.map (·.2) = (S n).1 → IntsAre vs (natInts (S n).2) → oc.data = .cell vc → OffT [I, kA, cell, rA, 160] tups → RowsIn rws tups → TabL ps tups →
      Fr h₀ env.locals h (fun y => if y = Str.ofString "turn" then u1 else if y = Str.ofString "place" then u2 else if y = Str.ofString "line" then u3 else m0 y) →
      News h₀ env.locals h ((kA, listOf (List.toArray vs) nK) :: (cell, oc) :: (rA, listOf (List.toArray (refsOf rws)) nR) :: (160, tabObj ps) :: tups) → Q .next { s with heap := h, toks := tk }) :
    RangeRest prog w A E h₀ env (Str.ofString "turn") body Q s I 0 n n 0 m0 news0 := by
  refine range_inv (fun i => J1 (S i) I kA cell rA m0) (fun i t h tk m news hi hj F N => ?_) (fun h tk m news hj F N => ?_) n 0 m0 news0 (Nat.zero_add n)
    ⟨near_self m0, [], [], n1, n2, oc0, vc0, #[], [], hn0, (fun _ h => nomatch h), d0, by rw [hS0]; rfl, by rw [hS0]; exact .nil, (fun _ h => nomatch h), (fun _ h => nomatch h), .inl rfl⟩
  · refine shut fun G0 hG => ?_
    obtain ⟨hm, rws, vs, nK, nR, oc, vc, ps, tups, hs, ht, d, e1, e2, o, r, tb⟩ := hj
    refine hG ?_
    rw [near_eq hm] at F
    refine turn i t h tk rws vs nK nR oc vc ps tups _ _ _ D hi e1 e2 d o r tb F (fun p hp => ?_)
    rcases List.mem_cons.mp hp with rfl | hp
    · exact N _ (.head _)
    · exact N p (.tail _ ((mem_s4 hp).elim (hs.mem p) (ht p)))
  · obtain ⟨hm, rws, vs, nK, nR, oc, vc, ps, tups, hs, ht, d, e1, e2, o, r, tb⟩ := hj
    rw [near_eq hm] at F
    refine fin h tk rws vs nK nR oc vc ps tups _ _ _ D e1 e2 d o r tb F (fun p hp => ?_)
    exact N p ((mem_s4 hp).elim (hs.mem p) (ht p))
theorem turn1_end {st : List Nat × List Nat} {I kA cell rA : Addr} {it oc : Obj} {m0 m' : Str → Option Value} {rws : List (Addr × Nat)} {vs : List Value} {nK nR : Nat} {vc : Option Value} {ps : Array Value} {tups : List (Addr × Obj)} {L : Addr} {s₁ : Shared} {h' : Heap} {tk' : Nat}
    (D : Dist I kA cell rA) (F : Fr h₀ L h' m') (N : News h₀ L h' ((I, it) :: (kA, listOf (List.toArray vs) nK) :: (cell, oc) :: (rA, listOf (List.toArray (refsOf rws)) nR) :: (160, tabObj ps) :: tups)) (hm : Near m0 m') (d : oc.data = .cell vc)
    (e1 : rws.map (·.2) = st.1) (e2 : IntsAre vs (natInts st.2)) (o : OffT [I, kA, cell, rA, 160] tups) (r : RowsIn rws tups) (tb : TabL ps tups) : UnrPost h₀ L s₁ I it (J1 st I kA cell rA m0) Q .next { s₁ with heap := h', toks := tk' } := by
  refine ⟨h', tk', m', (kA, listOf (List.toArray vs) nK) :: (cell, oc) :: (rA, listOf (List.toArray (refsOf rws)) nR) :: (160, tabObj ps) :: tups, rfl, F, N, fun q hq => ?_, hm, rws, vs, nK, nR, oc, vc, ps, tups,
    ⟨.head _, .tail _ (.head _), .tail _ (.tail _ (.head _)), .tail _ (.tail _ (.tail _ (.head _))), trivial⟩, fun q hq => .tail _ (.tail _ (.tail _ (.tail _ hq))), d, e1, e2, o, r, tb⟩
  simp only [List.mem_cons] at hq
  rcases hq with rfl | rfl | rfl | rfl | hq
  · exact fun e => D.ik e.symm
  · exact fun e => D.ic e.symm
  · exact fun e => D.ir e.symm
  · exact fun e => D.i1 e.symm
  · exact o q hq I (by simp)
end
section
variable {M : Model} {A : Around} {E : Value → Shared → Prop} {s : Shared} {env : Env} {n : Str} {t : Tok} {Q : Unit → Shared → Prop}
theorem store_place {way : Int} {a stp sz i : Nat} (hs : 0 < sz) (ha : a = (way % (sz : Int)).toNat) (h : ∀ pl : Nat, placeOf a stp sz i = pl → pl < sz → wpAny M A (storeName env n (.int (pl : Int) t)) Q E s) :
    wpAny M A (storeName env n (.int (Int.fmod (way + (0 + (i : Int)) * (stp : Int)) (sz : Int)) t)) Q E s := by
  have e : Int.fmod (way + (0 + (i : Int)) * (stp : Int)) (sz : Int) = ((placeOf a stp sz i : Nat) : Int) := by
    rw [Int.fmod_eq_emod_of_nonneg _ (by omega), Int.zero_add]
    have h0 := Int.emod_nonneg way (b := (sz : Int)) (by omega)
    have ea : (a : Int) = way % (sz : Int) := by omega
    unfold placeOf
    rw [Int.natCast_emod, Int.natCast_add, Int.natCast_mul, ea, Int.emod_add_emod]
  rw [e]
  exact h _ rfl (Nat.mod_lt _ hs)
theorem store_line {x pl sz : Nat} (hx : x < 2 ^ sz) (hp : pl < sz) (hs : sz ≤ 6) (h : ∀ ln : Nat, x ^^^ 2 ^ pl = ln → ln < 64 → wpAny M A (storeName env n (.int (ln : Int) t)) Q E s) :
    wpAny M A (storeName env n (.int (Builtin.bitXor (x : Int) (2 ^ (pl : Int).toNat)) t)) Q E s := by
  have e : Builtin.bitXor (x : Int) (2 ^ (pl : Int).toNat) = ((x ^^^ 2 ^ pl : Nat) : Int) := by
    rw [Int.toNat_natCast, pow_cast, xor_cast]
  rw [e]
  have h1 : x < 2 ^ 6 := Nat.lt_of_lt_of_le hx (Nat.pow_le_pow_right (by decide) hs)
  have h2 : 2 ^ pl < 2 ^ 6 := Nat.pow_lt_pow_right (by decide) (by omega)
  exact h _ rfl (Nat.xor_lt_two_pow h1 h2)
end
theorem rows_ok {wh sz a stp : Nat} : ∀ k i, okRows wh sz a stp k (st1 wh sz a stp i) i = true → ∀ j, j ≤ k → okRow (st1 wh sz a stp (i + j)) = true ∧ (j < k → numOf wh sz (placeOf a stp sz (i + j)) < 65536)
  | 0, i, h, j, hj => by
    have : j = 0 := by omega
    subst this
    exact ⟨h, fun x => absurd x (by omega)⟩
  | k + 1, i, h, j, hj => by
    simp only [okRows, Bool.and_eq_true] at h
    cases j with
    | zero => exact ⟨h.1, fun _ => of_decide_eq_true (by simpa [Nat.blt_eq] using h.2.1)⟩
    | succ j =>
      have := rows_ok k (i + 1) h.2.2 j (by omega)
      rw [show i + 1 + j = i + (j + 1) by omega] at this
      exact ⟨this.1, fun x => this.2 (by omega)⟩
theorem row_facts {st : List Nat × List Nat} {rws : List (Addr × Nat)} (h : okRow st = true) (e : rws.map (·.2) = st.1) : sortedB (keysOf (rws.map (·.2))) = true ∧ (∀ q ∈ rws, q.2 < 65536) ∧ (∀ q ∈ rws, 256 ≤ q.2) ∧ rws.length < 100 := by
  simp only [okRow, Bool.and_eq_true, List.all_eq_true, Nat.blt_eq, Nat.ble_eq] at h
  rw [← e] at h
  refine ⟨h.1, fun q hq => (h.2.1 q.2 (List.mem_map_of_mem hq)).1, fun q hq => (h.2.1 q.2 (List.mem_map_of_mem hq)).2, by simpa using h.2.2⟩
theorem step_no {st : List Nat × List Nat} {n : Nat} {rws : List (Addr × Nat)} (e : rws.map (·.2) = st.1) (h : (lay 9 (rws.map (·.2)) n).2 = false) : step1 st n = (rws.map (·.2), st.2 ++ [(lay 9 (rws.map (·.2)) n).1]) := by
  unfold step1; rw [← e, if_neg (by rw [h]; decide)]
theorem step_yes {st : List Nat × List Nat} {n : Nat} {rws : List (Addr × Nat)} (e : rws.map (·.2) = st.1) (h : (lay 9 (rws.map (·.2)) n).2 = true) : step1 st n = (rowIn (rws.map (·.2)) (lay 9 (rws.map (·.2)) n).1, st.2) := by
  unfold step1; rw [← e, if_pos h]
theorem ints_snoc {vs : List Value} {ds : List Nat} {x : Nat} {t : Tok} (h : IntsAre vs (natInts ds)) : IntsAre (vs ++ [.int (x : Int) t]) (natInts (ds ++ [x])) := ints_app h (.cons _ t .nil)
structure Good (wh sz a stp : Nat) (S : Nat → List Nat × List Nat) (num : Nat → Nat) : Prop where
  zero : S 0 = ([], [])
  succ : ∀ i, S (i + 1) = step1 (S i) (num i)
  row : ∀ i, i ≤ sz → okRow (S i) = true
  numlt : ∀ i, i < sz → num i < 65536
  kept : okKept wh sz (S sz).2 = true
  numeq : ∀ i, num i = numOf wh sz (placeOf a stp sz i)
theorem good_of {wh sz a stp : Nat} (h1 : chk1 wh sz a stp = true) (h2 : chk2 wh sz a stp = true) : ∃ S num, Good wh sz a stp S num := by
  refine ⟨st1 wh sz a stp, fun i => numOf wh sz (placeOf a stp sz i), rfl, fun _ => rfl, fun i hi => ?_, fun i hi => ?_, h2, fun _ => rfl⟩
  · have := (rows_ok sz 0 h1 i hi).1; rwa [Nat.zero_add] at this
  · have := (rows_ok sz 0 h1 i (by omega)).2 hi; rwa [Nat.zero_add] at this
end
section
noncomputable def blockA (q : Nat) : Bool := (List.range 16).all fun i => chkA (16 * q + i)
noncomputable def blockB (q : Nat) : Bool := (List.range 8).all fun i => chkB (8 * q + i)
theorem bA1 : blockA 1 = true := by decide +kernel
theorem bA2 : blockA 2 = true := by decide +kernel
theorem bA3 : blockA 3 = true := by decide +kernel
theorem bA4 : blockA 4 = true := by decide +kernel
theorem bA5 : blockA 5 = true := by decide +kernel
theorem bA6 : blockA 6 = true := by decide +kernel
theorem bA7 : blockA 7 = true := by decide +kernel
theorem bB2 : blockB 2 = true := by decide +kernel
theorem bB3 : blockB 3 = true := by decide +kernel
theorem bB4 : blockB 4 = true := by decide +kernel
theorem bB5 : blockB 5 = true := by decide +kernel
theorem bB6 : blockB 6 = true := by decide +kernel
theorem bB7 : blockB 7 = true := by decide +kernel
theorem bB8 : blockB 8 = true := by decide +kernel
theorem bB9 : blockB 9 = true := by decide +kernel
theorem bB10 : blockB 10 = true := by decide +kernel
theorem bB11 : blockB 11 = true := by decide +kernel
theorem bB12 : blockB 12 = true := by decide +kernel
theorem bB13 : blockB 13 = true := by decide +kernel
theorem bB14 : blockB 14 = true := by decide +kernel
theorem bB15 : blockB 15 = true := by decide +kernel
theorem block_at {f : Nat → Bool} {k q wh : Nat} (hk : 0 < k) (h : (List.range k).all (fun i => f (k * q + i)) = true) (e : wh / k = q) : f wh = true := by
  have := List.all_eq_true.mp h (wh % k) (List.mem_range.mpr (Nat.mod_lt _ hk))
  rwa [← e, Nat.div_add_mod] at this
theorem q_in (q : Nat) (h1 : 1 ≤ q) (h2 : q < 8) : q ∈ [1, 2, 3, 4, 5, 6, 7] := (by decide : ∀ q, q < 8 → 1 ≤ q → q ∈ [1, 2, 3, 4, 5, 6, 7]) q h2 h1
theorem q2_in (q : Nat) (h1 : 2 ≤ q) (h2 : q < 16) : q ∈ [2, 3, 4, 5, 6, 7, 8, 9, 10, 11, 12, 13, 14, 15] := (by decide : ∀ q, q < 16 → 2 ≤ q → q ∈ [2, 3, 4, 5, 6, 7, 8, 9, 10, 11, 12, 13, 14, 15]) q h2 h1
theorem all_cons {p : Nat → Prop} {a : Nat} {l : List Nat} (h : p a) (t : ∀ q ∈ l, p q) : ∀ q ∈ a :: l, p q := List.forall_mem_cons.mpr ⟨h, t⟩
theorem all_nil {p : Nat → Prop} : ∀ q ∈ ([] : List Nat), p q := fun _ h => nomatch h
theorem bA : ∀ q ∈ [1, 2, 3, 4, 5, 6, 7], blockA q = true := all_cons bA1 <| all_cons bA2 <| all_cons bA3 <| all_cons bA4 <| all_cons bA5 <| all_cons bA6 <| all_cons bA7 all_nil
theorem bB : ∀ q ∈ [2, 3, 4, 5, 6, 7, 8, 9, 10, 11, 12, 13, 14, 15], blockB q = true := all_cons bB2 <| all_cons bB3 <| all_cons bB4 <| all_cons bB5 <| all_cons bB6 <| all_cons bB7 <| all_cons bB8 <| all_cons bB9 <| all_cons bB10 <| all_cons bB11 <| all_cons bB12 <| all_cons bB13 <| all_cons bB14 <| all_cons bB15 all_nil
theorem chkA_all {wh : Nat} (h1 : 16 ≤ wh) (h2 : wh < 128) : chkA wh = true :=
  block_at (by decide) (bA _ (q_in _ (Nat.div_le_div_right (c := 16) h1) (Nat.div_lt_of_lt_mul h2))) rfl
theorem chkB_all {wh : Nat} (h1 : 16 ≤ wh) (h2 : wh < 128) : chkB wh = true :=
  block_at (by decide) (bB _ (q2_in _ (Nat.div_le_div_right (c := 8) h1) (Nat.div_lt_of_lt_mul h2))) rfl
theorem ways_mem {sz a stp : Nat} (ha : a < sz) (hs : stp = 1 ∨ stp = sz - 1) : (a, stp) ∈ waysOf sz := by
  unfold waysOf
  refine List.mem_flatMap.mpr ⟨a, List.mem_range.mpr ha, ?_⟩
  rcases hs with rfl | rfl <;> simp
theorem good_way {wh sz : Nat} (h1 : 16 ≤ wh) (h2 : wh < 128) (hz : bl wh = sz + 1) (h4 : 4 ≤ sz) (way : Int) :
    ∃ a stp S num, a = (way % (sz : Int)).toNat ∧ stp = stpOf way sz ∧ Good wh sz a stp S num := by
  have e : bl wh - 1 = sz := by omega
  have ha : (way % (sz : Int)).toNat < sz := by
    have x1 := Int.emod_nonneg way (b := (sz : Int)) (by omega)
    have x2 := Int.emod_lt_of_pos way (b := (sz : Int)) (by omega)
    omega
  have hs : stpOf way sz = 1 ∨ stpOf way sz = sz - 1 := by unfold stpOf; split <;> simp
  have hm := ways_mem ha hs
  have c1 := chkA_all h1 h2
  have c2 := chkB_all h1 h2
  unfold chkA at c1
  unfold chkB keptOf at c2
  rw [e] at c1 c2
  obtain ⟨S, num, G⟩ := good_of (wh := wh) (List.all_eq_true.mp c1 _ hm) (List.all_eq_true.mp c2 _ (List.mem_eraseDups.mpr (List.mem_map.mpr ⟨_, hm, rfl⟩)))
  exact ⟨_, _, S, num, rfl, rfl, G⟩
end
section
theorem stp_yes {way : Int} {sz stp : Nat} (h : stp = stpOf way sz) (c : Int.fmod way 2 = 0) : (1 : Int) = (stp : Int) := by rw [h]; unfold stpOf; rw [if_pos c]; rfl
theorem stp_no {way : Int} {sz stp : Nat} (h : stp = stpOf way sz) (c : ¬ Int.fmod way 2 = 0) (hs : 1 ≤ sz) : (sz : Int) - 1 = (stp : Int) := by rw [h]; unfold stpOf; rw [if_neg c]; omega
theorem step1_len (st : List Nat × List Nat) (n : Nat) : (step1 st n).2.length ≤ st.2.length + 1 := by
  unfold step1; split
  · exact Nat.le_succ _
  · simp
theorem kept_len {wh sz a stp : Nat} {S : Nat → List Nat × List Nat} {num : Nat → Nat} (G : Good wh sz a stp S num) : ∀ i, (S i).2.length ≤ i
  | 0 => by rw [G.zero]; exact Nat.le_refl _
  | i + 1 => by rw [G.succ]; exact Nat.le_trans (step1_len _ _) (Nat.succ_le_succ (kept_len G i))
theorem ints_natlen {vs : List Value} {ds : List Nat} (h : IntsAre vs (natInts ds)) : vs.length = ds.length := by
  have := h.length; simpa [natInts] using this
theorem ifexp_keep {M : Model} {A : Around} {E : Value → Shared → Prop} {s : Shared} {env : Env} {test b o : PySem.Expr} {pos : Pos} {Q : Value → Shared → Prop} (k : Nat)
    (h1 : wpAny M A (isTrue test env (eval test env)) (fun c s₁ => if c = true then wpAny M A (eval b env) (fun v s' => ∃ t tk, v = .int (k : Int) t ∧ s' = { s with toks := tk }) E s₁ else wpAny M A (eval o env) (fun v s' => ∃ t tk, v = .int (k : Int) t ∧ s' = { s with toks := tk }) E s₁) E s)
    (h2 : ∀ t tk, Q (.int (k : Int) t) { s with toks := tk }) : wpAny M A (eval (.IfExp test b o pos) env) Q E s :=
  wpAny_mono (IfExp_ h1) (fun v s' q => by obtain ⟨t, tk, rfl, rfl⟩ := q; exact h2 t tk) fun _ _ e => e
theorem append_led {prog : Program} {w : World} {A : Around} {E : Value → Shared → Prop} {s : Shared} {h₀ : Heap} {L D : Addr} {m : Str → Option Value} {news news' : List (Addr × Obj)} {vs : List Value} {n : Nat} {x : Value} {Q : Value → Shared → Prop}
    (F : Fr h₀ L s.heap m) (N : News h₀ L s.heap news) (U : Upd D (listOf vs.toArray n) (listOf (vs ++ [x]).toArray (n + 1)) news news') (hz : vs.length < 1000)
    (h : ∀ h', Fr h₀ L h' m → News h₀ L h' news' → Q .none { s with heap := h' }) : wpAny (model prog w) A (call (.builtin "list.append") [.ref D, x]) Q E s := by
  have e : (vs ++ [x]).toArray = vs.toArray.push x := by apply Array.toList_inj.mp; simp
  rw [e] at U
  exact append_K F N U h (by rw [sizeLine_eq, List.size_toArray]; omega)
section
variable {prog : Program} {w : World} {A : Around} {E : Value → Shared → Prop} {s : Shared} {h₀ : Heap} {L : Addr} {m : Str → Option Value} {env : Env}
theorem comp_none {ct elt : Expr} {x : Str} {scope : Scope} {cl : List (Str × Addr)} {S : List (Addr × Obj) → Prop} {P : Nat → Value → Prop} {Fin : List Value → List (Addr × Obj) → Prop} {news : List (Addr × Obj)}
    (turn : ∀ (i : Nat) (v : Value) (I : Addr) (oI : Obj) (C : Addr) (oC : Obj) (D : Addr) (m₂ : Str → Option Value) (h : Heap) (tk : Nat) (E' : Value → Shared → Prop), P i v → LCg.NsObj oC m₂ → m₂ x = some v → Fr h₀ L h m →
      News h₀ L h ((I, oI) :: (C, oC) :: (D, LCg.lst []) :: news) → LCg.Off3 I C D news → I ≠ C ∧ I ≠ D ∧ C ≠ D →
      wpAny (model prog w) A (isTrue ct (compEnvC scope cl C env) (eval ct (compEnvC scope cl C env))) (fun ok s' => if ok = true then False else LCg.CompEnd h₀ L m { s with heap := h, toks := tk } I oI C oC D (LCg.lst []) S (fun _ news' => news' = news) .none s') E' { s with heap := h, toks := tk })
    (fin : Fin [] news) : ∀ k i, LCt.CompRestT prog w A h₀ L m env ct elt x scope cl s S P Fin k i [] news
  | 0, _ => LCt.CompRestT.zero fin
  | k + 1, i => LCt.CompRestT.succ fun v I oI C oC D m₂ h tk E' a b c d e f g => wpAny_mono (turn i v I oI C oC D m₂ h tk E' a b c d e f g) (fun ok s' q => by
      cases ok with
      | true => exact absurd q (by simp)
      | false =>
        simp only [Bool.false_eq_true, if_false] at q ⊢
        obtain ⟨h', tk', news', e1, F, N, off, hS, r⟩ := q
        subst r
        exact ⟨h', tk', _, e1, F, N, off, hS, comp_none turn fin k (i + 1)⟩) fun _ _ x => x
theorem row_at {rws : List (Addr × Nat)} {tups : List (Addr × Obj)} {i : Nat} {v : Value} (r : RowsIn rws tups) (h : (refsOf rws).toArray[i]? = some v) : ∃ a n t1 t2, v = .ref a ∧ (a, n) ∈ rws ∧ (a, tupO n t1 t2) ∈ tups := by
  have h' : (refsOf rws)[i]? = some v := by simpa using h
  unfold refsOf at h'
  rw [List.getElem?_map] at h'
  cases e : rws[i]? with
  | none => rw [e] at h'; exact absurd h' (by simp)
  | some q =>
    rw [e] at h'
    have hq := List.mem_of_getElem? e
    obtain ⟨t1, t2, hm⟩ := r q hq
    exact ⟨q.1, q.2, t1, t2, (Option.some.inj h').symm, hq, hm⟩
end
theorem row_tup {h₀ h : Heap} {L I C D : Addr} {oI oC oD : Obj} {p1 p2 p3 p4 : Addr × Obj} {a : Addr} {n : Nat} {t1 t2 : Tok} {tups : List (Addr × Obj)} (N : News h₀ L h ((I, oI) :: (C, oC) :: (D, oD) :: p1 :: p2 :: p3 :: p4 :: tups)) (hm : (a, tupO n t1 t2) ∈ tups) : IsTup h a #[.int (bl (n / 256) : Nat) t1, .int (n : Nat) t2] :=
  ⟨_, (N _ (.tail _ (.tail _ (.tail _ (.tail _ (.tail _ (.tail _ (.tail _ hm)))))))).1, rfl, _, rfl⟩
theorem row_no1 {n : Nat} (h : 256 ≤ n) (a : (decide (Int.fdiv (n : Int) 256 * 256 < 256) != false) = true) : False := by
  have e : Int.fdiv (n : Int) 256 = ((n / 256 : Nat) : Int) := by rw [Int.fdiv_eq_ediv_of_nonneg _ (by decide)]; rfl
  rw [e] at a
  have : ¬ (((n / 256 : Nat) : Int) * 256 < 256) := by omega
  rw [decide_eq_false this] at a
  exact absurd a (by decide)
theorem row_no2 {n : Nat} (a : (decide (-(n : Int) < 256) != true) = true) : False := by
  have : -(n : Int) < 256 := by omega
  rw [decide_eq_true this] at a
  exact absurd a (by decide)
end
section
noncomputable def J2 (T : List Nat) (sp cell kA : Addr) (kO : Obj) (ps : Array Value) (m0 m : Str → Option Value) (news : List (Addr × Obj)) : Prop :=
  (∀ y, m y = m0 y) ∧ ∃ ws k oc vc, SubL [(sp, listOf (List.toArray ws) k), (cell, oc), (kA, kO), (160, tabObj ps)] news ∧ IntsAre ws (natInts T) ∧ oc.data = .cell vc
theorem j2_end {T : List Nat} {sp cell kA : Addr} {kO oc : Obj} {ps : Array Value} {m0 m : Str → Option Value} {news : List (Addr × Obj)} {ws : List Value} {k : Nat} {vc : Option Value}
    (hm : ∀ y, m y = m0 y) (hs : SubL [(sp, listOf (List.toArray ws) k), (cell, oc), (kA, kO), (160, tabObj ps)] news) (hi : IntsAre ws (natInts T)) (d : oc.data = .cell vc) : J2 T sp cell kA kO ps m0 m news :=
  ⟨hm, ws, k, oc, vc, hs, hi, d⟩
section
variable {prog : Program} {w : World} {A : Around} {E : Value → Shared → Prop} {s : Shared} {env : Env} {h₀ : Heap} {target : Expr} {body : List Stmt} {Q : Flow → Shared → Prop}
theorem loop2 {sp cell kA : Addr} {vs : List Value} {nK n0 : Nat} {oc0 : Obj} {vc0 : Option Value} {ps : Array Value} {t0 : Tok} {m0 : Str → Option Value} {news : List (Addr × Obj)} (ks : List Nat) (T : Nat → List Nat) (hT0 : T 0 = [0]) (hvs : IntsAre vs (natInts ks)) {J rA : Addr} (_D : Dist J kA cell rA)
    (hh : A.handled = none) (F : Fr h₀ env.locals s.heap m0) (N : News h₀ env.locals s.heap news) (_hm : m0 (Str.ofString "span") = some (.ref sp))
    (hn : SubL [(sp, listOf #[.int 0 t0] n0), (cell, oc0), (kA, listOf vs.toArray nK), (160, tabObj ps)] news) (d0 : oc0.data = .cell vc0)
    (turn : ∀ I : Addr, (∀ p ∈ news, p.1 < I) → ∀ i d t h tk o ws k oc vc, ks[i]? = some d → IntsAre ws (natInts (T i)) → oc.data = .cell vc → o.cls = .type "list_iterator" → Fr h₀ env.locals h m0 →
      News h₀ env.locals h [(I, o), (sp, listOf (List.toArray ws) k), (cell, oc), (kA, listOf vs.toArray nK), (160, tabObj ps)] →
      wpAny (model prog w) A (assign target env (.int (d : Nat) t)) (fun _ s₂ => wpAny (model prog w) A (execs body env) (UnrPostW h₀ env.locals { s with heap := h, toks := tk } [(I, o)] (fun m' n' => SubL [(kA, listOf vs.toArray nK)] n' ∧ J2 (T (i + 1)) sp cell kA (listOf vs.toArray nK) ps m0 m' n') Q) E s₂) E { s with heap := h, toks := tk })
    (fin : ∀ h tk ws k oc vc, IntsAre ws (natInts (T ks.length)) → oc.data = .cell vc → Fr h₀ env.locals h m0 → News h₀ env.locals h [(sp, listOf (List.toArray ws) k), (cell, oc), (kA, listOf vs.toArray nK), (160, tabObj ps)] → Q .next { s with heap := h, toks := tk }) :
    wpAny (model prog w) A (pyIter (.ref kA)) (fun it s₂ => TurnsAt prog w A h₀ env target body Q E it s₂) E s := by
  have hl := ints_len hvs
  refine iter_led (vs := vs) (k := nK) hh F N (hn.mem (kA, listOf vs.toArray nK) (by simp)) fun I hI => ?_
  refine items_inv0 (fun i m n' => J2 (T i) sp cell kA (listOf vs.toArray nK) ps m0 m n') (fun i a m n' v h tk o ha hj hv ho F' N' => ?_) (fun m n' h tk hj F' N' => ?_) ⟨fun _ => rfl, [.int 0 t0], n0, oc0, vc0, hn, (by rw [hT0]; exact .cons 0 t0 .nil), d0⟩
  · refine shut fun G0 hG => ?_
    obtain ⟨hm, ws, k, oc, vc, hs, hi, d⟩ := hj
    rw [funext hm] at F'
    clear hm
    rw [List.getElem?_map] at ha
    obtain ⟨v', hv', ea⟩ := Option.map_eq_some_iff.mp ha
    rw [← ea] at hv
    have e : v = v' := hv
    rw [← e] at hv'
    obtain ⟨dd, t, ev, hd⟩ := nat_at hvs (i := i) (v := v) (by simpa using hv')
    refine hG ?_
    rw [ev]
    refine turn I hI i dd t h tk o ws k oc vc hd hi d ho F' fun p hp => ?_
    rcases List.mem_cons.mp hp with rfl | hp
    · exact N' _ (.head _)
    · exact N' p (.tail _ (hs.mem p hp))
  · obtain ⟨hm, ws, k, oc, vc, hs, hi, d⟩ := hj
    rw [funext hm] at F'
    rw [List.length_map, hl] at hi
    exact fin h tk ws k oc vc hi d F' fun p hp => N' p (hs.mem p hp)
end
end
section
theorem kept_facts {wh sz : Nat} {ks : List Nat} (h : okKept wh sz ks = true) : (∀ (i d : Nat), ks[i]? = some d → d < 2 ^ sz ∧ halfOf (timesTo wh d 7) sz = d) ∧ ks.length < 6 ∧ (∀ e ∈ spanOf ks, e < 128) ∧ okFound wh ((spanOf ks).map (partOf wh)) = true := by
  simp only [okKept, Bool.and_eq_true, List.all_eq_true, Nat.blt_eq, Nat.beq_eq] at h
  exact ⟨fun i d hd => h.1 d (List.mem_of_getElem? hd), h.2.1, h.2.2.1, h.2.2.2⟩
theorem span_snoc (ks : List Nat) (d : Nat) : spanOf (ks ++ [d]) = spanOf ks ++ (spanOf ks).map fun e => d ^^^ e := by
  unfold spanOf; rw [List.foldl_append]; rfl
theorem span_fold (ks : List Nat) : ∀ acc : List Nat, (ks.foldl (fun sp l => sp ++ sp.map fun e => l ^^^ e) acc).length = acc.length * 2 ^ ks.length := by
  induction ks with
  | nil => intro acc; simp
  | cons k r ih =>
    intro acc
    rw [List.foldl_cons, ih, List.length_append, List.length_map, List.length_cons, Nat.pow_succ]
    rw [← Nat.two_mul, Nat.mul_comm 2, Nat.mul_assoc, Nat.mul_comm 2]
theorem span_len (ks : List Nat) : (spanOf ks).length = 2 ^ ks.length := by unfold spanOf; rw [span_fold]; simp
theorem span_way {wh sz : Nat} {ks : List Nat} (h : okKept wh sz ks = true) : ∃ T : Nat → List Nat, T 0 = [0] ∧ (∀ (i d : Nat), ks[i]? = some d → T (i + 1) = T i ++ (T i).map fun e => d ^^^ e) ∧ T ks.length = spanOf ks ∧ ∀ i, (T i).length ≤ 32 ∧ (T i).length ≠ 0 := by
  refine ⟨fun i => spanOf (ks.take i), rfl, fun i d hd => ?_, by simp, fun i => ?_⟩
  · have e : ks.take (i + 1) = ks.take i ++ [d] := by rw [List.take_add_one, hd]; rfl
    show spanOf (ks.take (i + 1)) = _
    rw [e, span_snoc]
  · have hl : (ks.take i).length ≤ 5 := by
      have := (kept_facts h).2.1
      rw [List.length_take]; omega
    show (spanOf (ks.take i)).length ≤ 32 ∧ (spanOf (ks.take i)).length ≠ 0
    rw [span_len]
    have h2 : 2 ^ (ks.take i).length ≤ 2 ^ 5 := Nat.pow_le_pow_right (by decide) hl
    have h3 : 0 < 2 ^ (ks.take i).length := Nat.two_pow_pos _
    omega
theorem pair_at {x y : Int} {t u : Tok} {i : Nat} {v : Value} (h : #[Value.int x t, Value.int y u][i]? = some v) (hx : x < 256) (hy : y < 256) : ∃ z r, v = .int z r ∧ z < 256 := by
  have h' : [Value.int x t, Value.int y u][i]? = some v := by simpa using h
  match i, h' with
  | 0, h' => exact ⟨x, t, (Option.some.inj h').symm, hx⟩
  | 1, h' => exact ⟨y, u, (Option.some.inj h').symm, hy⟩
theorem pair_no1 {x : Int} (h : x < 256) (a : (decide (x < 256) != true) = true) : False := by
  rw [decide_eq_true h] at a; exact absurd a (by decide)
theorem pair_no2 {x : Int} (h : x < 256) (a : (decide (x ≥ 256) != false) = true) : False := by
  have : ¬ x ≥ 256 := by omega
  rw [decide_eq_false this] at a; exact absurd a (by decide)
theorem text2_spec (w : World) (n sz c : Nat) {y : Int} (t1 t2 t3 : Tok) (hy : y = ((sz : Nat) : Int)) (h2 : sz < 20) :
    Spec 4 w 141 [.int n t1, .int y t2, .str (ofL [c]) t3] (fun _ => True) [] (fun r _ => ∃ t, r = .str (ofL (txt n sz c)) t) := by
  subst hy; exact text_spec w n sz c t1 t2 t3 h2
theorem or_small {d : Nat} (h : d < 128) : Builtin.bitOr (d : Int) 255 < 256 := by
  have e : Builtin.bitOr (d : Int) 255 = ((d ||| 255 : Nat) : Int) := by
    have := or_cast d 255
    exact this
  rw [e]
  have : d ||| 255 < 2 ^ 8 := Nat.or_lt_two_pow (by omega) (by decide)
  omega
end
section
structure Hide (p : Prop) : Prop where
  out : p
theorem insL_mem {xs : List Nat} {x y : Nat} (h : y ∈ insL xs x) : y = x ∨ y ∈ xs := by
  unfold insL at h
  rcases List.mem_append.mp h with h | h
  · exact .inr (List.mem_of_mem_take h)
  rcases List.mem_cons.mp h with h | h
  · exact .inl h
  · exact .inr (List.mem_of_mem_drop h)
theorem insR_mem {xs : List Nat} {x y : Nat} (h : y ∈ insR xs x) : y = x ∨ y ∈ xs := by
  unfold insR at h
  rcases List.mem_append.mp h with h | h
  · exact .inr (List.mem_of_mem_take h)
  rcases List.mem_cons.mp h with h | h
  · exact .inl h
  · exact .inr (List.mem_of_mem_drop h)
theorem insL_len (xs : List Nat) (x : Nat) : (insL xs x).length = xs.length + 1 := by
  unfold insL
  rw [List.length_append, List.length_cons, List.length_take, List.length_drop]
  exact min_part _ _
theorem insR_len (xs : List Nat) (x : Nat) : (insR xs x).length = xs.length + 1 := by
  unfold insR
  rw [List.length_append, List.length_cons, List.length_take, List.length_drop]
  exact min_part _ _
theorem fold_mem {f : List Nat → Nat → List Nat} (hf : ∀ xs x y, y ∈ f xs x → y = x ∨ y ∈ xs) : ∀ (fs acc : List Nat) (y : Nat), y ∈ fs.foldl f acc → y ∈ fs ∨ y ∈ acc
  | [], _, _, h => .inr h
  | x :: r, acc, y, h => by
    rcases fold_mem hf r (f acc x) y h with h | h
    · exact .inl (.tail _ h)
    rcases hf _ _ _ h with rfl | h
    · exact .inl (.head _)
    · exact .inr h
theorem fold_len {f : List Nat → Nat → List Nat} (hf : ∀ xs x, (f xs x).length = xs.length + 1) : ∀ (fs acc : List Nat), (fs.foldl f acc).length = acc.length + fs.length
  | [], _ => rfl
  | x :: r, acc => by
    rw [List.foldl_cons, fold_len hf r, hf, List.length_cons]; omega
theorem okIns_at {f : List Nat → Nat → List Nat} : ∀ (fs acc : List Nat), okIns f acc fs = true → ∀ i, sortedB (((fs.take i).foldl f acc).map bl) = true
  | [], acc, h, i => by rw [List.take_nil]; exact h
  | x :: r, acc, h, 0 => by simp only [okIns, Bool.and_eq_true] at h; exact h.1
  | x :: r, acc, h, i + 1 => by
    simp only [okIns, Bool.and_eq_true] at h
    exact okIns_at r (f acc x) h.2 i
structure Found (wh : Nat) (es : List Nat) (Fd Td Ld : Nat → List Nat) : Prop where
  f0 : Fd 0 = []
  t0 : Td 0 = []
  l0 : Ld 0 = []
  elt : ∀ (i e : Nat), es[i]? = some e → e < 128
  fS : ∀ (i e : Nat), es[i]? = some e → Fd (i + 1) = Fd i ++ [partOf wh e]
  tS : ∀ (i e : Nat), es[i]? = some e → Td (i + 1) = insL (Td i) (partOf wh e)
  lS : ∀ (i e : Nat), es[i]? = some e → Ld (i + 1) = insR (Ld i) (partOf wh e)
  px : ∀ (i e : Nat), es[i]? = some e → partOf wh e < 128
  tSrt : ∀ i, sortedB ((Td i).map bl) = true
  lSrt : ∀ i, sortedB ((Ld i).map bl) = true
  fLt : ∀ i, ∀ x ∈ Fd i, x < 128
  tLt : ∀ i, ∀ x ∈ Td i, x < 128
  lLt : ∀ i, ∀ x ∈ Ld i, x < 128
  fLen : ∀ i, (Fd i).length ≤ 32
  tLen : ∀ i, (Td i).length ≤ 32
  lLen : ∀ i, (Ld i).length ≤ 32
  perm1 : permOk (blInts (Fd es.length)) = true
  perm2 : permOk (blInts (Fd es.length).reverse) = true
  plen1 : (permOf (blInts (Fd es.length))).length = (blInts (Fd es.length)).length
  plen2 : (permOf (blInts (Fd es.length).reverse)).length = (blInts (Fd es.length).reverse).length
  told : Td es.length = outOf 0 (blInts (Fd es.length).reverse) (Fd es.length).reverse
  laid : Ld es.length = outOf 0 (blInts (Fd es.length)) (Fd es.length)
  prods : (Fd es.length).Perm (prodEnd wh)
  pin1 : 2 ≤ (Fd es.length).length → ∀ i ∈ permOf (blInts (Fd es.length)), i < (Fd es.length).length
  pin2 : 2 ≤ (Fd es.length).reverse.length → ∀ i ∈ permOf (blInts (Fd es.length).reverse), i < (Fd es.length).reverse.length
theorem prod_pos : ∀ c, c < 128 → c ≠ 0 → ∀ d ∈ prodEnd c, d ≠ 0 := by decide +kernel
theorem perm_in {fs gs : List Nat} (hg : ∀ x ∈ gs, x ≠ 0) (h : gs = outOf 0 (blInts fs) fs) (h2 : 2 ≤ fs.length) : ∀ i ∈ permOf (blInts fs), i < fs.length := by
  intro i hi
  by_cases hlt : i < fs.length
  · exact hlt
  · exfalso
    have hb : (blInts fs).length = fs.length := List.length_map ..
    unfold outOf at h
    rw [if_neg (by omega)] at h
    have e : fs.getD i 0 = 0 := by simp [List.getD, List.getElem?_eq_none (show fs.length ≤ i by omega)]
    have hm : fs.getD i 0 ∈ gs := by rw [h]; exact List.mem_map_of_mem hi
    rw [e] at hm
    exact hg 0 hm rfl
theorem found_way {wh : Nat} {es : List Nat} (hw : wh < 128) (hw0 : wh ≠ 0) (hl : es.length ≤ 32) (he : ∀ e ∈ es, e < 128) (h : okFound wh (es.map (partOf wh)) = true) : ∃ Fd Td Ld, Found wh es Fd Td Ld := by
  simp only [okFound, Bool.and_eq_true, List.all_eq_true, Nat.blt_eq, Nat.beq_eq, decide_eq_true_eq] at h
  obtain ⟨h1, h2, h3, h4, h5, h6, h7, h8, h9, h10⟩ := h
  have hlen : (es.map (partOf wh)).length = es.length := List.length_map ..
  have hall : (es.map (partOf wh)).take es.length = es.map (partOf wh) := List.take_of_length_le (by omega)
  have hn : ∀ (i e : Nat), es[i]? = some e → (es.map (partOf wh)).take (i + 1) = (es.map (partOf wh)).take i ++ [partOf wh e] := fun i e hd => by
    rw [List.take_add_one, List.getElem?_map, hd]; rfl
  have hb : ∀ (fs : List Nat), (blInts fs).length = fs.length := fun fs => List.length_map ..
  have hm : ∀ i, ∀ x ∈ (es.map (partOf wh)).take i, x < 128 := fun i x hx => h3 x (List.mem_of_mem_take hx)
  have ht : ∀ i, ((es.map (partOf wh)).take i).length ≤ 32 := fun i => by rw [List.length_take]; omega
  refine ⟨fun i => (es.map (partOf wh)).take i, fun i => ((es.map (partOf wh)).take i).foldl insL [], fun i => ((es.map (partOf wh)).take i).foldl insR [], ?_⟩
  constructor
  · rfl
  · rfl
  · rfl
  · exact fun i e hd => he e (List.mem_of_getElem? hd)
  · exact hn
  · intro i e hd; show _ = _; rw [hn i e hd, List.foldl_append]; rfl
  · intro i e hd; show _ = _; rw [hn i e hd, List.foldl_append]; rfl
  · exact fun i e hd => h3 _ (List.mem_map_of_mem (List.mem_of_getElem? hd))
  · exact okIns_at _ _ h1
  · exact okIns_at _ _ h2
  · exact hm
  · intro i x hx
    rcases fold_mem (fun _ _ _ => insL_mem) _ _ _ hx with hx | hx
    · exact hm i x hx
    · exact nomatch hx
  · intro i x hx
    rcases fold_mem (fun _ _ _ => insR_mem) _ _ _ hx with hx | hx
    · exact hm i x hx
    · exact nomatch hx
  · exact ht
  · intro i; show _ ≤ _; rw [fold_len insL_len]; have := ht i; simpa using this
  · intro i; show _ ≤ _; rw [fold_len insR_len]; have := ht i; simpa using this
  · show permOk (blInts (List.take es.length _)) = true; rw [hall]; exact h4
  · show permOk (blInts (List.take es.length _).reverse) = true; rw [hall]; exact h5
  · show (permOf (blInts (List.take es.length _))).length = _; rw [hall, hb]; exact h6
  · show (permOf (blInts (List.take es.length _).reverse)).length = _; rw [hall, hb, List.length_reverse]; exact h7
  · show List.foldl _ _ (List.take es.length _) = _; rw [hall]; exact h8
  · show List.foldl _ _ (List.take es.length _) = _; rw [hall]; exact h9
  · show (List.take es.length _).Perm _; rw [hall]; exact List.isPerm_iff.mp h10
  · show 2 ≤ (List.take es.length _).length → ∀ i ∈ permOf (blInts (List.take es.length _)), i < (List.take es.length _).length
    rw [hall]; refine perm_in (fun x hx => ?_) h9
    rcases fold_mem (fun _ _ _ => insR_mem) _ _ _ hx with hx | hx
    · exact prod_pos wh hw hw0 x ((List.isPerm_iff.mp h10).mem_iff.mp hx)
    · exact nomatch hx
  · show 2 ≤ (List.take es.length _).reverse.length → ∀ i ∈ permOf (blInts (List.take es.length _).reverse), i < (List.take es.length _).reverse.length
    rw [hall]; refine perm_in (fun x hx => ?_) h8
    rcases fold_mem (fun _ _ _ => insL_mem) _ _ _ hx with hx | hx
    · exact prod_pos wh hw hw0 x ((List.isPerm_iff.mp h10).mem_iff.mp hx)
    · exact nomatch hx
noncomputable def Near3 (m0 m : Str → Option Value) : Prop := ∀ y, y ≠ Str.ofString "each" → y ≠ Str.ofString "part" → m y = m0 y
theorem near3_eq {m0 m : Str → Option Value} (h : Near3 m0 m) : m = fun y => if y = Str.ofString "each" then m (Str.ofString "each") else if y = Str.ofString "part" then m (Str.ofString "part") else m0 y := by
  funext y
  by_cases h1 : y = Str.ofString "each"
  · rw [if_pos h1, h1]
  by_cases h2 : y = Str.ofString "part"
  · rw [if_neg h1, if_pos h2, h2]
  · rw [if_neg h1, if_neg h2]; exact h y h1 h2
theorem near3_end {m0 : Str → Option Value} {v1 v2 u1 u2 : Option Value} : Near3 m0 (fun y => if y = Str.ofString "part" then v2 else if y = Str.ofString "each" then v1 else if y = Str.ofString "each" then u1 else if y = Str.ofString "part" then u2 else m0 y) := fun y h1 h2 => by
  show (if y = Str.ofString "part" then v2 else if y = Str.ofString "each" then v1 else if y = Str.ofString "each" then u1 else if y = Str.ofString "part" then u2 else m0 y) = m0 y
  rw [if_neg h2, if_neg h1, if_neg h1, if_neg h2]
noncomputable def J3 (fd td ld : List Nat) (tA lA fA bA sp : Addr) (spO : Obj) (ps : Array Value) (m0 m : Str → Option Value) (news : List (Addr × Obj)) : Prop :=
  Near3 m0 m ∧ ∃ tv lv fv bv nt nl nf nb, SubL [(tA, listOf (List.toArray tv) nt), (lA, listOf (List.toArray lv) nl), (fA, listOf (List.toArray fv) nf), (bA, listOf (List.toArray bv) nb), (sp, spO), (160, tabObj ps)] news ∧
    IntsAre tv (natInts td) ∧ IntsAre lv (natInts ld) ∧ IntsAre fv (natInts fd) ∧ IntsAre bv (natInts fd.reverse)
section
variable {prog : Program} {w : World} {A : Around} {E : Value → Shared → Prop} {s : Shared} {env : Env} {h₀ : Heap} {target : Expr} {body : List Stmt} {Q : Flow → Shared → Prop}
theorem loop3 {tA lA fA bA sp : Addr} {ps : Array Value} {ws : List Value} {k n1 n2 n3 n4 : Nat} {m0 : Str → Option Value} {news : List (Addr × Obj)} {wh : Nat} {es : List Nat} {Fd Td Ld : Nat → List Nat} (G : Found wh es Fd Td Ld) (hvs : IntsAre ws (natInts es))
    (hh : A.handled = none) (F : Fr h₀ env.locals s.heap m0) (N : News h₀ env.locals s.heap news) (_h1 : m0 (Str.ofString "told") = some (.ref tA)) (_h2 : m0 (Str.ofString "laid") = some (.ref lA)) (_h3 : m0 (Str.ofString "found") = some (.ref fA)) (_h4 : m0 (Str.ofString "back") = some (.ref bA))
    (hn : SubL [(tA, listOf #[] n1), (lA, listOf #[] n2), (fA, listOf #[] n3), (bA, listOf #[] n4), (sp, listOf ws.toArray k), (160, tabObj ps)] news)
    (turn : ∀ I : Addr, (∀ p ∈ news, p.1 < I) → ∀ i e t h tk o tv lv fv bv nt nl nf nb u1 u2, es[i]? = some e → IntsAre tv (natInts (Td i)) → IntsAre lv (natInts (Ld i)) → IntsAre fv (natInts (Fd i)) → IntsAre bv (natInts (Fd i).reverse) → o.cls = .type "list_iterator" →
      Fr h₀ env.locals h (fun y => if y = Str.ofString "each" then u1 else if y = Str.ofString "part" then u2 else m0 y) →
      News h₀ env.locals h [(I, o), (tA, listOf (List.toArray tv) nt), (lA, listOf (List.toArray lv) nl), (fA, listOf (List.toArray fv) nf), (bA, listOf (List.toArray bv) nb), (sp, listOf ws.toArray k), (160, tabObj ps)] →
      wpAny (model prog w) A (assign target env (.int (e : Nat) t)) (fun _ s₂ => wpAny (model prog w) A (execs body env) (UnrPostW h₀ env.locals { s with heap := h, toks := tk } [(I, o)] (fun m' n' => SubL [(sp, listOf ws.toArray k)] n' ∧ J3 (Fd (i + 1)) (Td (i + 1)) (Ld (i + 1)) tA lA fA bA sp (listOf ws.toArray k) ps m0 m' n') Q) E s₂) E { s with heap := h, toks := tk })
    (fin : ∀ h tk tv lv fv bv nt nl nf nb u1 u2, IntsAre tv (natInts (Td es.length)) → IntsAre lv (natInts (Ld es.length)) → IntsAre fv (natInts (Fd es.length)) → IntsAre bv (natInts (Fd es.length).reverse) →
      Fr h₀ env.locals h (fun y => if y = Str.ofString "each" then u1 else if y = Str.ofString "part" then u2 else m0 y) →
      News h₀ env.locals h [(tA, listOf (List.toArray tv) nt), (lA, listOf (List.toArray lv) nl), (fA, listOf (List.toArray fv) nf), (bA, listOf (List.toArray bv) nb), (sp, listOf ws.toArray k), (160, tabObj ps)] → Q .next { s with heap := h, toks := tk }) :
    wpAny (model prog w) A (pyIter (.ref sp)) (fun it s₂ => TurnsAt prog w A h₀ env target body Q E it s₂) E s := by
  have hl := ints_len hvs
  refine iter_led (vs := ws) (k := k) hh F N (hn.mem (sp, listOf ws.toArray k) (by simp)) fun I hI => ?_
  refine items_inv0 (fun i m n' => J3 (Fd i) (Td i) (Ld i) tA lA fA bA sp (listOf ws.toArray k) ps m0 m n') (fun i a m n' v h tk o ha hj hv ho F' N' => ?_) (fun m n' h tk hj F' N' => ?_)
    ⟨fun _ _ _ => rfl, [], [], [], [], n1, n2, n3, n4, hn, by rw [G.t0]; exact .nil, by rw [G.l0]; exact .nil, by rw [G.f0]; exact .nil, by rw [G.f0]; exact .nil⟩
  · refine shut fun G0 hG => ?_
    obtain ⟨hm, tv, lv, fv, bv, nt, nl, nf, nb, hs, i1, i2, i3, i4⟩ := hj
    rw [near3_eq hm] at F'
    rw [List.getElem?_map] at ha
    obtain ⟨v', hv', ea⟩ := Option.map_eq_some_iff.mp ha
    rw [← ea] at hv
    have e : v = v' := hv
    rw [← e] at hv'
    obtain ⟨dd, t, ev, hd⟩ := nat_at hvs (i := i) (v := v) (by simpa using hv')
    refine hG ?_
    rw [ev]
    refine turn I hI i dd t h tk o tv lv fv bv nt nl nf nb _ _ hd i1 i2 i3 i4 ho F' fun p hp => ?_
    rcases List.mem_cons.mp hp with rfl | hp
    · exact N' _ (.head _)
    · exact N' p (.tail _ (hs.mem p hp))
  · obtain ⟨hm, tv, lv, fv, bv, nt, nl, nf, nb, hs, i1, i2, i3, i4⟩ := hj
    rw [near3_eq hm] at F'
    rw [List.length_map, hl] at i1 i2 i3 i4
    exact fin h tk tv lv fv bv nt nl nf nb _ _ i1 i2 i3 i4 F' fun p hp => N' p (hs.mem p hp)
end
theorem j3_end {fd td ld : List Nat} {tA lA fA bA sp : Addr} {spO : Obj} {ps : Array Value} {m0 m : Str → Option Value} {news : List (Addr × Obj)} {tv lv fv bv : List Value} {nt nl nf nb : Nat} (hm : Near3 m0 m)
    (hs : SubL [(tA, listOf (List.toArray tv) nt), (lA, listOf (List.toArray lv) nl), (fA, listOf (List.toArray fv) nf), (bA, listOf (List.toArray bv) nb), (sp, spO), (160, tabObj ps)] news)
    (i1 : IntsAre tv (natInts td)) (i2 : IntsAre lv (natInts ld)) (i3 : IntsAre fv (natInts fd)) (i4 : IntsAre bv (natInts fd.reverse)) : J3 fd td ld tA lA fA bA sp spO ps m0 m news :=
  ⟨hm, tv, lv, fv, bv, nt, nl, nf, nb, hs, i1, i2, i3, i4⟩
theorem store_part {M : Model} {A : Around} {E : Value → Shared → Prop} {s : Shared} {env : Env} {n : Str} {t : Tok} {Q : Unit → Shared → Prop} {wh e : Nat} (hp : Hide (partOf wh e < 128)) (h : ∀ x : Nat, Hide (partOf wh e = x) → x < 128 → wpAny M A (storeName env n (.int (x : Int) t)) Q E s) :
    wpAny M A (storeName env n (.int ((partTo wh (common wh e) 7).2 : Nat) t)) Q E s := h _ ⟨rfl⟩ hp.out
theorem ins_at0 {vs : List Value} (y : Value) : kl_ins vs 0 y = y :: vs := ins_cast (c := 0) y (Nat.zero_le _)
theorem ints_takes {vs : List Value} {ds : List Nat} {x : Nat} {t : Tok} (c : Nat) (h : IntsAre vs (natInts ds)) : IntsAre (vs.take c ++ Value.int (x : Int) t :: vs.drop c) (natInts (ds.take c ++ x :: ds.drop c)) := by
  have h2 := ints_app (ds := ds.take c) (ds' := x :: ds.drop c) (vs := vs.take c) (ys := Value.int (x : Int) t :: vs.drop c) ?_ ?_
  · exact h2
  · have := IntsAre.take h c
    rwa [natInts, List.map_take]
  · refine .cons _ t ?_
    have := IntsAre.drop h c
    rwa [← List.map_drop] at this
theorem bne_dead {x : Str} (a : (x != x) = true) : False := by simp at a
end
section
theorem gcdF_lt : ∀ (n a b : Nat), a < 128 → b < 128 → gcdF n a b < 128
  | 0, _, _, ha, _ => ha
  | n + 1, a, b, ha, hb => by
    unfold gcdF
    by_cases h0 : b = 0
    · rw [if_pos h0]; exact ha
    · rw [if_neg h0]; exact gcdF_lt n b (rem a b) hb (Nat.lt_trans (rem_less ha h0) hb)
theorem common_lt {a b : Nat} (ha : a < 128) (hb : b < 128) : common a b < 128 := by unfold common; exact gcdF_lt 8 a b ha hb
noncomputable def isFunO : Option Obj → Bool
  | some ⟨_, _, .func _, _⟩ => true
  | _ => false
theorem fn_of {K : Frag} {h : Heap} {q : Addr} (X : K.In h) (e : isFunO (K.lookup q) = true) : FnAt q h := by
  cases hq : K.lookup q with
  | none => rw [hq] at e; cases e
  | some o =>
    obtain ⟨c, d, dt, sl⟩ := o
    rw [hq] at e
    cases dt with
    | func fd => exact ⟨_, _, _, _, X q _ hq⟩
    | _ => cases e
theorem fn_136 {w : World} {h : Heap} (X : (hd.heap_39 w.params).In h) : FnAt 136 h := fn_of X rfl
theorem size_key (w : World) (n : Nat) (t : Tok) (h : n < 128) : Spec 4 w 136 [.int (n : Int) t] (fun _ => True) [] (fun r _ => ∃ t, r = .int (bl n : Nat) t) := by
  intro p loose mean mg mb dp un gd cn cs a ccd cl outer A₀ base h₀ L m s Q E B F X N hP T hk hdp hun hret
  refine size_spec w n t (by omega) p loose mean mg mb dp un gd cn cs a ccd cl outer A₀ base h₀ L m s Q E B F X N hP T hk hdp hun fun r nx h' tk' F' N' K' O' hR => hret r nx h' tk' F' N' K' O' ?_
  obtain ⟨_, t', rfl⟩ := hR
  exact ⟨t', rfl⟩
theorem size_keys (w : World) {vs : List Value} {ds : List Nat} (hi : IntsAre vs (natInts ds)) (hds : ∀ d ∈ ds, d < 128) (i : Nat) (v : Value) (hv : vs[i]? = some v) :
    Spec 4 w 136 [v] (fun _ => True) [] (fun r _ => ∃ t, r = .int ((ds.map bl).getD i 0 : Nat) t) := by
  obtain ⟨d, t, rfl, e⟩ := nat_at hi (i := i) (v := v) (by simpa using hv)
  have e2 : (ds.map bl).getD i 0 = bl d := by simp [List.getD, e]
  rw [e2]
  exact size_key w d t (hds d (List.mem_of_getElem? e))
theorem ints_pick {vs : List Value} {ds : List Nat} (h : IntsAre vs (natInts ds)) : ∀ ps : List Nat, (∀ i ∈ ps, i < ds.length) → IntsAre (ps.map fun i => vs.getD i .none) (natInts (ps.map fun i => ds.getD i 0))
  | [], _ => .nil
  | i :: r, hp => by
    have hi := hp i (.head _)
    have hv : vs.length = ds.length := ints_len h
    obtain ⟨d, t, e, hd⟩ := nat_at h (i := i) (v := vs[i]'(by omega)) (by simp)
    have e1 : vs.getD i .none = .int (d : Int) t := by rw [← e]; simp [List.getD, show i < vs.length by omega]
    have e2 : ds.getD i 0 = d := by simp [List.getD, hd]
    show IntsAre (vs.getD i .none :: _) (((ds.getD i 0 : Nat) : Int) :: _)
    rw [e1, e2]
    exact .cons _ t (ints_pick h r fun j hj => hp j (.tail _ hj))
section
variable {w : World} {p : Program} {loose : List Str} {mean : ExcName → Option Value} {mg mb : Str → Option Value} {dp un : Nat} {gd : Option (List Code)} {cn : Str} {cs : Scope} {a : Addr} {ccd : Value} {cl : List (Str × Addr)} {outer : List Env} {A₀ : Around} {base h₀ : Heap} {L : Addr} {m : Str → Option Value} {s : Shared} {Q E : Value → Shared → Prop}
theorem spec_upd {b : Nat} {f D : Addr} {o o' : Obj} {vs : List Value} {kw : List (Str × Value)} {P : Heap → Prop} {R : Value → List (Addr × Obj) → Prop} {r₀ : Value} {news news' : List (Addr × Obj)}
    (S : SpecK b w f vs kw P [(D, o)] R) (hR : ∀ r nx, R r nx → r = r₀ ∧ nx = [(D, o')]) (B : Below A₀ base outer h₀) (F : Fr h₀ L s.heap m) (X : (hd.heap_39 w.params).In h₀) (N : News h₀ L s.heap news) (T : Top p loose mean mg mb h₀) (hk : cs.kind = .function) (hdp : dp + b < recursionLimit) (hun : un + 16 * b < cLine)
    (U : Upd D o o' news news') (hp : P (sans s.heap [(D, o)])) (h : ∀ h' tk', Fr h₀ L h' m → News h₀ L h' news' → Q r₀ { s with heap := h', toks := tk' }) :
    wpAny (model PySem.Challenge.rw_ux0013_01.row.prog w) (ktrTop dp un gd cn cs L a ccd cl outer) (call (.ref f) vs kw) Q E s := by
  obtain ⟨pre, post, rfl, rfl, ha, hc⟩ := U.split
  refine spec_use _ (pre ++ post) S B F X N T hk hdp hun (fun q hq => ?_) (fun q hq => ⟨?_, fun z hz => ?_⟩) hp fun r nx h' tk' F' N' _ _ hR' => ?_
  · rw [List.mem_singleton.mp hq]; exact List.mem_append_right _ (.head _)
  · rcases List.mem_append.mp hq with hq | hq
    · exact List.mem_append_left _ hq
    · exact List.mem_append_right _ (.tail _ hq)
  · rw [List.mem_singleton.mp hz]
    rcases List.mem_append.mp hq with hq | hq
    · exact ha q hq
    · exact hc q hq
  · obtain ⟨rfl, rfl⟩ := hR r nx hR'
    refine h h' tk' F' fun q hq => N' q ?_
    rcases List.mem_append.mp hq with hq | hq
    · exact List.mem_append_right _ (List.mem_append_left _ hq)
    · rcases List.mem_cons.mp hq with rfl | hq
      · exact List.mem_append_left _ (.head _)
      · exact List.mem_append_right _ (List.mem_append_right _ hq)
theorem fn_sans {L D : Addr} {o : Obj} {news : List (Addr × Obj)} (F : Fr h₀ L s.heap m) (X : (hd.heap_39 w.params).In h₀) (N : News h₀ L s.heap news) (hD : (D, o) ∈ news) : FnAt 136 (sans s.heap [(D, o)]) := by
  obtain ⟨oc, od, fd, sl, e⟩ := fn_136 X
  refine ⟨oc, od, fd, sl, sans_get (F.keep _ _ e) fun q hq he => ?_⟩
  have hn := (N _ hD).2.2
  rw [List.mem_singleton.mp hq] at he
  have e2 : h₀.get? D = some _ := he ▸ e
  rw [hn] at e2
  cases e2
theorem upd_mem {D : Addr} {o o' : Obj} {news news' : List (Addr × Obj)} (U : Upd D o o' news news') : (D, o) ∈ news := by
  obtain ⟨pre, post, rfl, rfl, _, _⟩ := U.split
  exact List.mem_append_right _ (.head _)
theorem insL_use {l : Addr} {vs : List Value} {n : Nat} {ds : List Nat} {x : Nat} {t : Tok} {news news' : List (Addr × Obj)} (hi : IntsAre vs (natInts ds)) (hs : sortedB (ds.map bl) = true) (hds : ∀ d ∈ ds, d < 128) (hx : x < 128) (hl : ds.length ≤ 32)
    (B : Below A₀ base outer h₀) (F : Fr h₀ L s.heap m) (X : (hd.heap_39 w.params).In h₀) (N : News h₀ L s.heap news) (T : Top p loose mean mg mb h₀) (hk : cs.kind = .function) (hdp : dp + 12 < recursionLimit) (hun : un + 16 * 12 < cLine)
    (U : Upd l (listOf vs.toArray n) (listOf (vs.take (layL (ds.map bl) (bl x)) ++ Value.int (x : Int) t :: vs.drop (layL (ds.map bl) (bl x))).toArray (n + 1)) news news')
    (h : ∀ h' tk', Fr h₀ L h' m → News h₀ L h' news' → Q .none { s with heap := h', toks := tk' }) :
    wpAny (model PySem.Challenge.rw_ux0013_01.row.prog w) (ktrTop dp un gd cn cs L a ccd cl outer) (call (.ref 73) [.ref l, .int (x : Int) t] [(Str.ofString "key", .ref 136)]) Q E s := by
  have hv : vs.length = ds.length := ints_len hi
  refine spec_upd (insL_spec w 136 l vs n (.int (x : Int) t) (fun i => (ds.map bl).getD i 0) (bl x) (layL (ds.map bl) (bl x)) (fun _ => True) (fun _ _ _ h => h) (by omega) (size_keys w hi hds) (size_key w x t hx) (fun i hi' => layL_at (sortedB_le hs) _ i (by rw [List.length_map]; omega)) (by have := layL_le (ds.map bl) (bl x); rw [List.length_map] at this; omega))
    (fun r nx hR => hR) B F X N T hk hdp hun U ⟨fn_sans F X N (upd_mem U), trivial⟩ h
theorem insR_use {l : Addr} {vs : List Value} {n : Nat} {ds : List Nat} {x : Nat} {t : Tok} {news news' : List (Addr × Obj)} (hi : IntsAre vs (natInts ds)) (hs : sortedB (ds.map bl) = true) (hds : ∀ d ∈ ds, d < 128) (hx : x < 128) (hl : ds.length ≤ 32)
    (B : Below A₀ base outer h₀) (F : Fr h₀ L s.heap m) (X : (hd.heap_39 w.params).In h₀) (N : News h₀ L s.heap news) (T : Top p loose mean mg mb h₀) (hk : cs.kind = .function) (hdp : dp + 12 < recursionLimit) (hun : un + 16 * 12 < cLine)
    (U : Upd l (listOf vs.toArray n) (listOf (vs.take (layR (ds.map bl) (bl x)) ++ Value.int (x : Int) t :: vs.drop (layR (ds.map bl) (bl x))).toArray (n + 1)) news news')
    (h : ∀ h' tk', Fr h₀ L h' m → News h₀ L h' news' → Q .none { s with heap := h', toks := tk' }) :
    wpAny (model PySem.Challenge.rw_ux0013_01.row.prog w) (ktrTop dp un gd cn cs L a ccd cl outer) (call (.ref 55) [.ref l, .int (x : Int) t] [(Str.ofString "key", .ref 136)]) Q E s := by
  have hv : vs.length = ds.length := ints_len hi
  refine spec_upd (insR_spec w 136 l vs n (.int (x : Int) t) (fun i => (ds.map bl).getD i 0) (bl x) (layR (ds.map bl) (bl x)) (fun _ => True) (fun _ _ _ h => h) (by omega) (size_keys w hi hds) (size_key w x t hx) (fun i hi' => layR_at (sortedB_le hs) _ i (by rw [List.length_map]; omega)) (by have := layR_le (ds.map bl) (bl x); rw [List.length_map] at this; omega))
    (fun r nx hR => hR) B F X N T hk hdp hun U ⟨fn_sans F X N (upd_mem U), trivial⟩ h
theorem sort_size {l : Addr} {vs : List Value} {n : Nat} {ds : List Nat} {news : List (Addr × Obj)} (hi : IntsAre vs (natInts ds)) (hds : ∀ d ∈ ds, d < 128) (hl : ds.length ≤ 32) (hok : permOk (blInts ds) = true) (hps : (permOf (blInts ds)).length = (blInts ds).length) (hin : 2 ≤ ds.length → ∀ i ∈ permOf (blInts ds), i < ds.length)
    (B : Below A₀ base outer h₀) (F : Fr h₀ L s.heap m) (X : (hd.heap_39 w.params).In h₀) (N : News h₀ L s.heap news) (T : Top p loose mean mg mb h₀) (hk : cs.kind = .function) (hdp : dp + 4 < recursionLimit) (hun : un + 2 + 16 * 4 < cLine) (hm : (l, listOf vs.toArray n) ∈ news)
    (h : ∀ D h' tk ys c, IntsAre ys (natInts (outOf 0 (blInts ds) ds)) → Fr h₀ L h' m → News h₀ L h' ((D, listOf ys.toArray c) :: news) → (∀ q ∈ news, q.1 < D) → Q (.ref D) { s with heap := h', toks := tk }) :
    wpAny (model PySem.Challenge.rw_ux0013_01.row.prog w) (ktrTop dp un gd cn cs L a ccd cl outer) (call (.builtin "sorted") [.ref l] [(Str.ofString "key", .ref 136)]) Q E s := by
  have hv : vs.length = ds.length := ints_len hi
  have hb : (blInts ds).length = ds.length := List.length_map ..
  refine srt_sorted (kz := blInts ds) (vs := vs) F N (News.isList N hm) (hb.trans hv.symm) (hv ▸ Nat.lt_of_le_of_lt hl (by decide)) hok hps (fun i v k hv' hk' h1 tk need F' N' => ?_) fun D h' tk c F' N' hD => h D h' tk _ c ?_ F' N' hD
  · obtain ⟨d, t, rfl, e⟩ := nat_at hi (i := i) (v := v) (by simpa using hv')
    have ek : k = ((bl d : Nat) : Int) := by
      unfold blInts at hk'
      rw [List.getElem?_map, e] at hk'
      exact (Option.some.inj hk').symm
    subst ek
    refine spec_use0 (size_key w d t (hds d (List.mem_of_getElem? e))) B F' X N' T hk (by omega) (by omega) trivial fun r nx h2 tk2 F2 N2 _ _ hR => ?_
    obtain ⟨t2, rfl⟩ := hR
    exact KskEnd.intro F2 N2 fun q hq => List.mem_append_right _ hq
  · unfold outOf
    by_cases h2 : (blInts ds).length < 2
    · rw [if_pos h2, if_pos h2]; exact hi
    · rw [if_neg h2, if_neg h2]
      exact ints_pick hi _ (hin (by omega))
end
theorem insert0_led {prog : Program} {w : World} {A : Around} {E : Value → Shared → Prop} {s : Shared} {h₀ : Heap} {L D : Addr} {m : Str → Option Value} {news news' : List (Addr × Obj)} {vs : List Value} {n : Nat} {x : Value} {u : Tok} {Q : Value → Shared → Prop}
    (F : Fr h₀ L s.heap m) (N : News h₀ L s.heap news) (U : Upd D (listOf vs.toArray n) (listOf (x :: vs).toArray (n + 1)) news news') (hz : vs.length < 1000)
    (h : ∀ h', Fr h₀ L h' m → News h₀ L h' news' → Q .none { s with heap := h' }) : wpAny (model prog w) A (call (.builtin "list.insert") [.ref D, .int 0 u, x]) Q E s :=
  kl_insert F N rfl (by rw [List.toList_toArray]; exact ins_at0 x) U (by rw [List.toList_toArray, sizeLine_eq]; omega) h
theorem news_pick {g h : Heap} {L : Addr} {nx news : List (Addr × Obj)} {p : Addr × Obj} (N : News g L h (nx ++ news)) (hp : p ∈ nx) : News g L h (p :: news) := fun q hq => by
  rcases List.mem_cons.mp hq with rfl | hq
  · exact N _ (List.mem_append_left _ hp)
  · exact N q (List.mem_append_right _ hq)
theorem sorted_same {n1 n2 : List Int} {d1 d2 : List Nat} (h1 : n1.Perm (natInts d1)) (h2 : n2.Perm (natInts d2)) (o1 : n1.Pairwise (· ≤ ·)) (o2 : n2.Pairwise (· ≤ ·)) (h : d1.Perm d2) : n1 = n2 := by
  have hp : n1.Perm n2 := h1.trans ((h.map _).trans h2.symm)
  exact hp.eq_of_pairwise (fun a b _ _ => Int.le_antisymm) o1 o2
theorem eq_same {prog : Program} {w : World} {A : Around} {E : Value → Shared → Prop} {s : Shared} {a b : Addr} {xs ys : List Value} {ns : List Int} {Q : Value → Shared → Prop}
    (ha : s.heap.IsList a xs.toArray) (hb : s.heap.IsList b ys.toArray) (hi : IntsAre xs ns) (hj : IntsAre ys ns) (hu : A.units + 64 < cLine) (h : Q (.bool true) s) : wpAny (model prog w) A (compareOp .Eq (.ref a) (.ref b)) Q E s :=
  ke_eq_ints ha hb hi hj hu (by rw [decide_eq_true rfl]; exact h)
theorem ne_same {prog : Program} {w : World} {A : Around} {E : Value → Shared → Prop} {s : Shared} {a b : Addr} {xs ys : List Value} {ns : List Int} {Q : Value → Shared → Prop}
    (ha : s.heap.IsList a xs.toArray) (hb : s.heap.IsList b ys.toArray) (hi : IntsAre xs ns) (hj : IntsAre ys ns) (hu : A.units + 64 < cLine) (h : Q (.bool false) s) : wpAny (model prog w) A (compareOp .NotEq (.ref a) (.ref b)) Q E s :=
  ke_ne_ints ha hb hi hj hu (by rw [decide_eq_true rfl]; exact h)
theorem tidyG {M : Model} {A : Around} {tree : Sem α} {Q : α → Shared → Prop} {E : Value → Shared → Prop} {s s' : Shared} {h₀ h : Heap} {L : Addr} {m : Str → Option Value} {t : Tok} (_g : s.gens = #[]) (_F : Fr h₀ L h m) (e : s' = { s with heap := h, toks := t })
    (k : wpAny M A tree Q E { s with heap := h, toks := t }) : wpAny M A tree Q E s' := e ▸ k
section
variable {w : World} {p : Program} {loose : List Str} {mean : ExcName → Option Value} {mg mb : Str → Option Value} {dp un : Nat} {gd : Option (List Code)} {cn : Str} {cs : Scope} {a : Addr} {ccd : Value} {cl : List (Str × Addr)} {outer : List Env} {A₀ : Around} {base h₀ h₁ : Heap} {L : Addr} {m : Str → Option Value} {s s₁ : Shared} {t₁ : Tok} {Q E : Value → Shared → Prop} {news : List (Addr × Obj)}
theorem spec_useG {b : Nat} {f : Addr} {vs : List Value} {kw : List (Str × Value)} {R : Value → List (Addr × Obj) → Prop}
    (g : s₁.gens = #[]) (e : s = { s₁ with heap := h₁, toks := t₁ }) (S : SpecK b w f vs kw (fun _ => True) [] R) (B : Below A₀ base outer h₀) (F : Fr h₀ L h₁ m) (X : (hd.heap_39 w.params).In h₀) (N : News h₀ L h₁ news) (T : Top p loose mean mg mb h₀) (hk : cs.kind = .function) (hdp : dp + b < recursionLimit) (hun : un + 16 * b < cLine)
    (h : ∀ (r : Value) (nx : List (Addr × Obj)) (h' : Heap) (tk' : Nat), Fr h₀ L h' m → News h₀ L h' (nx ++ news) → (∀ q ∈ nx, ∀ p ∈ news, q.1 ≠ p.1) → R r nx → Q r { s₁ with heap := h', toks := tk' }) :
    wpAny (model PySem.Challenge.rw_ux0013_01.row.prog w) (ktrTop dp un gd cn cs L a ccd cl outer) (call (.ref f) vs kw) Q E s := by
  subst e
  exact spec_use0 S B F X N T hk hdp hun trivial fun r nx h' tk' F' N' _ O' hR => h r nx h' tk' F' N' O' hR
theorem spec_vG0 {b : Nat} {f : Addr} {vs : List Value} {kw : List (Str × Value)} {v : Tok → Value}
    (g : s₁.gens = #[]) (e : s = { s₁ with heap := h₁, toks := t₁ }) (S : SpecK b w f vs kw (fun _ => True) [] (fun r _ => ∃ t, r = v t)) (B : Below A₀ base outer h₀) (F : Fr h₀ L h₁ m) (X : (hd.heap_39 w.params).In h₀) (N : News h₀ L h₁ news) (T : Top p loose mean mg mb h₀) (hk : cs.kind = .function) (hdp : dp + b < recursionLimit) (hun : un + 16 * b < cLine)
    (h : ∀ (t : Tok) (h' : Heap) (tk' : Nat), Fr h₀ L h' m → News h₀ L h' news → Q (v t) { s₁ with heap := h', toks := tk' }) : wpAny (model PySem.Challenge.rw_ux0013_01.row.prog w) (ktrTop dp un gd cn cs L a ccd cl outer) (call (.ref f) vs kw) Q E s := by
  subst e
  exact spec_v0 S B F X N T hk hdp hun trivial h
theorem spec_vG1 {b : Nat} {f : Addr} {vs : List Value} {kw : List (Str × Value)} {v : Tok → Value}
    (g : s₁.gens = #[]) (e : s = { s₁ with heap := h₁, toks := t₁ }) (S : SpecK b w f vs kw (fun _ => True) [] (fun r nx => nx = [] ∧ ∃ t, r = v t)) (B : Below A₀ base outer h₀) (F : Fr h₀ L h₁ m) (X : (hd.heap_39 w.params).In h₀) (N : News h₀ L h₁ news) (T : Top p loose mean mg mb h₀) (hk : cs.kind = .function) (hdp : dp + b < recursionLimit) (hun : un + 16 * b < cLine)
    (h : ∀ (t : Tok) (h' : Heap) (tk' : Nat), Fr h₀ L h' m → News h₀ L h' news → Q (v t) { s₁ with heap := h', toks := tk' }) : wpAny (model PySem.Challenge.rw_ux0013_01.row.prog w) (ktrTop dp un gd cn cs L a ccd cl outer) (call (.ref f) vs kw) Q E s := by
  subst e
  exact spec_v1 S B F X N T hk hdp hun trivial h
theorem spec_tG {b : Nat} {f : Addr} {vs : List Value} {kw : List (Str × Value)} {o : Tok → Tok → Obj}
    (g : s₁.gens = #[]) (e : s = { s₁ with heap := h₁, toks := t₁ }) (S : SpecK b w f vs kw (fun _ => True) [] (fun r nx => ∃ a t t', r = .ref a ∧ nx = [(a, o t t')])) (B : Below A₀ base outer h₀) (F : Fr h₀ L h₁ m) (X : (hd.heap_39 w.params).In h₀) (N : News h₀ L h₁ news) (T : Top p loose mean mg mb h₀) (hk : cs.kind = .function) (hdp : dp + b < recursionLimit) (hun : un + 16 * b < cLine)
    (h : ∀ (a : Addr) (t t' : Tok) (h' : Heap) (tk' : Nat), Fr h₀ L h' m → News h₀ L h' ((a, o t t') :: news) → (∀ q ∈ [(a, o t t')], ∀ p ∈ news, q.1 ≠ p.1) → Q (.ref a) { s₁ with heap := h', toks := tk' }) : wpAny (model PySem.Challenge.rw_ux0013_01.row.prog w) (ktrTop dp un gd cn cs L a ccd cl outer) (call (.ref f) vs kw) Q E s := by
  subst e
  exact spec_t S B F X N T hk hdp hun trivial h
theorem insL_useG {l : Addr} {vs : List Value} {n : Nat} {ds : List Nat} {x : Nat} {t : Tok} {news' : List (Addr × Obj)} (hi : IntsAre vs (natInts ds)) (hs : sortedB (ds.map bl) = true) (hds : ∀ d ∈ ds, d < 128) (hx : x < 128) (hl : ds.length ≤ 32)
    (g : s₁.gens = #[]) (e : s = { s₁ with heap := h₁, toks := t₁ }) (B : Below A₀ base outer h₀) (F : Fr h₀ L h₁ m) (X : (hd.heap_39 w.params).In h₀) (N : News h₀ L h₁ news) (T : Top p loose mean mg mb h₀) (hk : cs.kind = .function) (hdp : dp + 12 < recursionLimit) (hun : un + 16 * 12 < cLine)
    (U : Upd l (listOf vs.toArray n) (listOf (vs.take (layL (ds.map bl) (bl x)) ++ Value.int (x : Int) t :: vs.drop (layL (ds.map bl) (bl x))).toArray (n + 1)) news news')
    (h : ∀ h' tk', Fr h₀ L h' m → News h₀ L h' news' → Q .none { s₁ with heap := h', toks := tk' }) :
    wpAny (model PySem.Challenge.rw_ux0013_01.row.prog w) (ktrTop dp un gd cn cs L a ccd cl outer) (call (.ref 73) [.ref l, .int (x : Int) t] [(Str.ofString "key", .ref 136)]) Q E s := by
  subst e
  exact insL_use hi hs hds hx hl B F X N T hk hdp hun U h
theorem insR_useG {l : Addr} {vs : List Value} {n : Nat} {ds : List Nat} {x : Nat} {t : Tok} {news' : List (Addr × Obj)} (hi : IntsAre vs (natInts ds)) (hs : sortedB (ds.map bl) = true) (hds : ∀ d ∈ ds, d < 128) (hx : x < 128) (hl : ds.length ≤ 32)
    (g : s₁.gens = #[]) (e : s = { s₁ with heap := h₁, toks := t₁ }) (B : Below A₀ base outer h₀) (F : Fr h₀ L h₁ m) (X : (hd.heap_39 w.params).In h₀) (N : News h₀ L h₁ news) (T : Top p loose mean mg mb h₀) (hk : cs.kind = .function) (hdp : dp + 12 < recursionLimit) (hun : un + 16 * 12 < cLine)
    (U : Upd l (listOf vs.toArray n) (listOf (vs.take (layR (ds.map bl) (bl x)) ++ Value.int (x : Int) t :: vs.drop (layR (ds.map bl) (bl x))).toArray (n + 1)) news news')
    (h : ∀ h' tk', Fr h₀ L h' m → News h₀ L h' news' → Q .none { s₁ with heap := h', toks := tk' }) :
    wpAny (model PySem.Challenge.rw_ux0013_01.row.prog w) (ktrTop dp un gd cn cs L a ccd cl outer) (call (.ref 55) [.ref l, .int (x : Int) t] [(Str.ofString "key", .ref 136)]) Q E s := by
  subst e
  exact insR_use hi hs hds hx hl B F X N T hk hdp hun U h
end
end
section
local macro_rules | `(tactic| k_all) => `(tactic| exact off_of (by assumption) (by simp))
theorem law_holds : PySem.Challenge.rw_ux0013_01.Holds := by
  refine hd (by
    k_go0
    (all_goals try k_fold)
    (rename Ground _ _ _ _ _ _ _ _ _ => j1; rename LooseAre _ _ _ => j2; rename TopE _ _ _ _ => j3; rename TopW _ _ _ => j4; rename Well _ _ _ _ => j5; rename Reads _ _ _ _ => j6; rename ReadsAll _ _ _ _ => j7; rename ReadsAllW _ _ _ _ _ _ => j8)
    clear j2 j3 j4 j5 j6 j7 j8
    w_on
    k_with_none
    k_with "storeName" => (k_here; k_dflt (refine' storeX_M ?zsF ?zsN ?_ ?zsa ?zsb; (case zsF => k_asm); (case zsN => k_asm); (case zsa => rfl); (case zsb => rfl); k_whole; intro h' mk9 F' N'; (try k_sweep)))
    k_with "call ref" => k_fold
    k_with "call builtin:sum cons nil" => k_dflt (k_dflt (refine' sum_slice ?F ?N ?I ?hh ?_; (case F => k_asm); (case N => k_asm); (case I => assumption); (case hh => rfl)); intro way9 t9 h9 tk9 F9 N9)
    k_with "subscriptTail List" => k_dflt (k_dflt (refine' tail_item ?hl ?_ ?hs; (case hl => exact News.isList (by k_asm) (by k_mem)); (case hs => with_unfolding_all rfl)); intro tl9 htl9 t9; (have htl := tails_len htl9))
    k_with "storeName" => k_dflt (first | ((with_reducible refine store_whole ?_); intro wh9 w16 w128) | ((with_reducible refine' store_size ?z1 ?z2 ?_); (case z1 => exact w16); (case z2 => exact w128); intro sz9 hsz9 s4 s6) | ((with_reducible refine store_letter ?_); intro c9 c35 c1035) | ((with_reducible refine' store_place (a := a9) ?z1 ?z2 ?_); (case z1 => omega); (case z2 => exact ha9); intro pl9 hpl9 plt9) | ((with_reducible show wpAny _ _ (storeName _ _ (.int (Builtin.bitXor _ _) _)) _ _ _); refine' store_line ?z1 ?z2 ?z3 ?_; (case z1 => exact halfM_lt _ _); (case z2 => exact plt9); (case z3 => exact s6); intro ln9 hln9 lnt9))
    k_with "call ref" => k_dflt (k_dflt (refine' spec_vG1 ?zg ?ze (size_spec _ wh9 _ ?q) ?B ?F ?X ?N ?T ?hk ?hd ?hu ?_; (case zg => assumption); (case q => omega); walk_at "mine ret"; (case ze => rfl)); (intro t9 h9 tk9 F9 N9))
    k_with "call ref" => k_dflt (k_dflt (refine' spec_vG0 ?zg ?ze (text_spec _ wh9 sz9 c9 _ _ _ ?q) ?B ?F ?X ?N ?T ?hk ?hd ?hu ?_; (case zg => assumption); (case q => omega); walk_at "mine ret"; (case ze => rfl)); (intro t9 h9 tk9 F9 N9); (have htx := txt_13 wh9 c9 s6))
    k_with "call ref" => k_dflt (k_dflt (refine' refused_call _ _ _ ?q ?B ?F ?X ?N ?T ?hk ?hd ?hu ?_; (case q => rw [List.length_append]; omega); walk_at "mine ret"); (intro h9 tk9 F9 N9))
    k_with "pyIter ref" => k_dflt ((refine shut fun G0 hG0 => ?_); (obtain ⟨a9, stp9, S9, num9, ha9, hstp9, G9⟩ := good_way w16 w128 hsz9 s4 way9); (refine hG0 ?_); (clear hG0 G0); k_dflt (refine' iter_rangeUnr (n := sz9) ?hh ?hr ?hs ?hn ?F ?N ?rest; (case hh => rfl); (case hr => assumption); (case hs => exact small_one (by omega) (by omega) (by omega) (by omega)); (case hn => (rw [rangeSize_nat]; exact rfl)); (case F => k_asm); (case N => k_asm)); intro I9 lI9; (k_lt lI9); k_dflt (refine' loop1 S9 G9.zero ?e1 ?e2 ?e3 rfl ?D ?hn ?d0 ?turn ?fin; (case e1 => rfl); (case e2 => rfl); (case e3 => k_asm); (case D => (constructor <;> omega)); (case hn => k_subL); (case d0 => assumption)); (case' turn => (intro i8 t8 h8 tk8 rws8 vs8 nK8 nR8 oc8 vc8 ps8 tups8 u1 u2 u3 D8 hi8 e18 e28 d8 o8 r8 tb8 F8 N8; have hvl8 := kept_len G9 i8; rw [← ints_natlen e28] at hvl8)); (case' fin => (intro h8 tk8 rws8 vs8 nK8 nR8 oc8 vc8 ps8 tups8 u1 u2 u3 D8 e18 e28 d8 o8 r8 tb8 F8 N8)))
    k_with "eval IfExp" => k_dflt (k_dflt (refine ifexp_keep stp9 ?_ ?_; rotate_left; intro t9 tk9; rotate_left))
    k_with "call ref" => k_dflt (k_dflt (refine' spec_vG0 ?zg ?ze (told2_spec _ (wh9 * 2 ^ pl9) sz9 c9 tl9 _ _ _ _ ?q1 ?q2 ?q3 ?q4 ?q5 ?q6) ?B ?F ?X ?N ?T ?hk ?hd ?hu ?_; (case zg => assumption); (case q1 => rw [Int.toNat_natCast, Int.natCast_mul, Int.natCast_pow]; rfl); (case q2 => rfl); (case q3 => omega); (case q4 => assumption); (case q5 => assumption); (case q6 => assumption); walk_at "mine ret"; (case ze => rfl)); (intro t9 h9 tk9 F9 N9))
    k_with "call ref" => k_dflt (k_dflt (refine' spec_vG0 ?zg ?ze (number2_spec _ (wh9 * 2 ^ pl9) sz9 c9 _ ?q3 ?q4 ?q5) ?B ?F ?X ?N ?T ?hk ?hd ?hu ?_; (case zg => assumption); (case q3 => omega); (case q4 => assumption); (case q5 => assumption); walk_at "mine ret"; (case ze => rfl)); (intro t9 h9 tk9 F9 N9))
    k_with "call ref" => k_dflt ((have hin8 := (row_facts (G9.row i8 (by omega)) e18)); k_dflt (refine' laid_use (num := num9 i8) (bel := 255 * (i8 % 2)) ?q1 ?q2 ?B ?F ?X ?N ?T ?hk ?hd ?hu codeHd D8 o8 r8 tb8 hin8.1 hin8.2.1 hin8.2.2.2 (G9.numlt i8 (by assumption)) ?q3 ?h1 ?h2; (case q1 => rw [G9.numeq, numOf, hpl9, hln9, Int.toNat_natCast]; simp only [Int.natCast_add, Int.natCast_mul, Int.natCast_pow]; rfl); (case q2 => rw [Int.zero_add, Int.fmod_eq_emod_of_nonneg _ (by decide), Int.natCast_mul, Int.natCast_emod]; rfl); (case q3 => exact Nat.mul_le_mul_left 255 (Nat.le_of_lt_succ (Nat.mod_lt _ (by decide)))); walk_at "mine ret"); (case' h1 => (intro hl9 t9 h9 tk9 ps9 tups9 F9 N9 o9 r9 tb9)); (case' h2 => (intro hl9 h9 tk9 ps9 tups9 rws9 F9 N9 o9 r9 tb9 er9)))
    k_with "Exists" => k_dflt (first | exact ⟨_, _, congrArg (fun z => Value.int z _) (stp_yes hstp9 (by assumption)), rfl⟩ | exact ⟨_, _, congrArg (fun z => Value.int z _) (stp_no hstp9 (by assumption) (by omega)), rfl⟩)
    k_with "call builtin:list.append nil" => k_dflt (k_dflt (show wpAny _ _ (call (Value.builtin "list.append") [_, _]) _ _ _; refine' append_led ?F ?N ?U ?z ?_; (case F => k_asm); (case N => k_asm); (case U => k_upd); (case z => omega)); intro h' F' N')
    k_with "UnrPost" => k_dflt (first | (refine' turn1_end D8 ?zF ?zN ?zm ?zd ?ze1 ?ze2 o9 r9 tb9; (case zF => k_asm); (case zN => k_asm); (case zm => exact near_end); (case zd => assumption); (case ze1 => (rw [G9.succ, step_no e18 hl9])); (case ze2 => (rw [G9.succ, step_no e18 hl9]; exact ints_snoc e28))) | (refine' turn1_end D8 ?zF ?zN ?zm ?zd ?ze1 ?ze2 o9 r9 tb9; (case zF => k_asm); (case zN => k_asm); (case zm => exact near_end); (case zd => assumption); (case ze1 => (rw [G9.succ, step_yes e18 hl9]; exact er9)); (case ze2 => (rw [G9.succ, step_yes e18 hl9]; exact e28))))
    k_with "CompSrcT" => k_dflt ((refine LCt.CompSrcT.ledger (by rfl) (by k_asm) (by k_asm) (by k_mem) (by (rw [sizeLine_eq, List.size_toArray, refsOf, List.length_map]; (have := (row_facts (G9.row sz9 (Nat.le_refl _)) e18).2.2.2); omega)) ?_); intro g9; refine comp_none ?_ ?_ _ _; (intro i7 v7 I7 oI7 C7 oC7 D7 m7 h7 tk7 E7 hP7 hC7 hx7 F7 N7 off7 ne7; obtain ⟨a7, n7, u7, w7, e7, hr7, ht7⟩ := row_at r8 hP7; subst e7; (have hlo7 := (row_facts (G9.row sz9 (Nat.le_refl _)) e18).2.2.1 _ hr7); (have hhi7 := (row_facts (G9.row sz9 (Nat.le_refl _)) e18).2.1 _ hr7); dsimp only at hlo7 hhi7))
    k_with "subscriptTail Name Constant ref int" => k_dflt (k_dflt (refine' item_tupleT (j := 1) (l := [_, _]) (row_tup ?zN ht7) ?za ?zb ?zc ?zd ?_; (case zN => k_asm); (case za => decide); (case zb => decide); (case zc => rfl); (case zd => rfl); k_whole))
    k_with "CompEnd" => k_dflt (refine' comp_same ?zF ?zN (by assumption) ?zS rfl; (case zF => k_asm); (case zN => k_asm); (case zS => exact .inr ⟨_, by k_mem, rfl, _, rfl⟩))
    k_with "False" => k_dflt (first | exact row_no1 hlo7 (by assumption) | exact row_no2 (by assumption))
    k_with "pyIter ref" => k_dflt ((obtain ⟨ks9, hks9⟩ : ∃ ks, (S9 sz9).2 = ks := ⟨_, rfl⟩); (rw [hks9] at e28); (have kp9 := G9.kept); (rw [hks9] at kp9); (refine shut fun G0 hG0 => ?_); (obtain ⟨T9, hT0, hTs, hTe, hTl⟩ := span_way kp9); (refine hG0 ?_); (clear hG0 G0); k_dflt (refine' loop2 ks9 T9 hT0 e28 D8 ?zh ?zF ?zN ?zm ?zn ?zd ?zt ?zf; (case zh => rfl); (case zF => k_asm); (case zN => k_asm); (case zm => rfl); (case zn => k_subL); (case zd => assumption)); (case' zt => (intro I6 lI6; k_lt lI6; intro i6 d6 t6 h6 tk6 o6 ws6 k6 oc6 vc6 hd6 hi6 dc6 ho6 F6 N6; (have kf6 := Hide.mk ((kept_facts kp9).1 _ _ hd6)); (have hf6 := Hide.mk kf6.out.2); (have hk6 : d6 < 128 := Nat.lt_of_lt_of_le kf6.out.1 (Nat.le_trans (Nat.pow_le_pow_right (by decide) s6) (by decide))); (have hl6 := hTl i6))); (case' zf => (intro h6 tk6 ws6 k6 oc6 vc6 hi6 dc6 F6 N6)))
    k_with "TupSrcT" => k_dflt ((refine TupSrcT.mk (by rfl) (by k_asm) (by k_asm) (by k_mem) (by show 2 ≤ _; rw [sizeLine_eq]; decide) ?_); intro g7; refine comp_none ?_ ?_ _ _; (intro i7 v7 I7 oI7 C7 oC7 D7 m7 h7 tk7 E7 hP7 hC7 hx7 F7 N7 off7 ne7; obtain ⟨z7, u7, e7, hz7⟩ := pair_at hP7 (by omega) (or_small hk6); subst e7))
    k_with "False" => k_dflt (first | exact pair_no1 hz7 (by assumption) | exact pair_no2 hz7 (by assumption))
    k_with "CompEnd" => k_dflt (refine' comp_same ?zF ?zN (by assumption) ?zS rfl; (case zF => k_asm); (case zN => k_asm); (case zS => exact ⟨_, by k_mem⟩))
    k_with "call ref" => k_dflt (k_dflt (refine' spec_vG1 ?zg ?ze (times_spec _ wh9 d6 _ _ ?q2) ?B ?F ?X ?N ?T ?hk ?hd ?hu ?_; (case zg => assumption); (case q2 => omega); walk_at "mine ret"; (case ze => rfl)); (intro t9 h9 tk9 F9 N9))
    k_with "call ref" => k_dflt (k_dflt (refine' spec_vG0 ?zg ?ze (told3_spec hf6.out (told2_spec _ (timesTo wh9 d6 7) sz9 c9 tl9 _ _ _ _ ?q1 ?q2 ?q3 ?q4 ?q5 ?q6)) ?B ?F ?X ?N ?T ?hk ?hd ?hu ?_; (case zg => assumption); (case q1 => rfl); (case q2 => rfl); (case q3 => omega); (case q4 => assumption); (case q5 => assumption); (case q6 => assumption); walk_at "mine ret"; (case ze => rfl)); (intro t9 h9 tk9 F9 N9))
    k_with "call ref" => k_dflt (k_dflt (refine' spec_vG0 ?zg ?ze (text2_spec _ d6 (sz9 - 1) c9 _ _ _ ?q1 ?q2) ?B ?F ?X ?N ?T ?hk ?hd ?hu ?_; (case zg => assumption); (case q1 => exact (Int.ofNat_sub (Nat.le_trans (by decide) s4)).symm); (case q2 => exact Nat.lt_of_le_of_lt (Nat.sub_le _ _) (Nat.lt_of_le_of_lt s6 (by decide))); walk_at "mine ret"; (case ze => rfl)); (intro t9 h9 tk9 F9 N9))
    k_with "CompSrc" => k_dflt ((refine LCg.CompSrc.ledger (by rfl) (by k_asm) (by k_asm) (by k_mem) (by (rw [sizeLine_eq, List.size_toArray, ints_len hi6]; omega)) ?_); (intro g5); (refine comp_turns (fun i v => ∃ e t, (T9 i6)[i]? = some e ∧ v = .int (d6 ^^^ e : Nat) t) ?_ (.inr ⟨_, by k_mem, rfl, _, rfl⟩) ?_); (rotate_left); (intro ys5 hl5 hy5; (have hI5 := ints_map (fun e => d6 ^^^ e) ys5 (T9 i6) (by rw [hl5, List.size_toArray, ints_len hi6]) hy5)); (rotate_left); (intro i5 v5 I5 oI5 C5 oC5 D5 m5 ys5 h5 tk5 E5 hi5 hP5 hC5 hx5 F5 N5 off5 ne5 _; obtain ⟨d5, u5, e5, hd5⟩ := nat_at hi6 hP5; subst e5))
    k_with "CompEnd" => k_dflt (refine comp_end (own := []) (by assumption) (by assumption) (by assumption) (by assumption) ?_; exact ⟨_, _, hd5, by rw [xor_cast]⟩)
    k_with "inplaceOp Add ref" => k_dflt ((k_dflt (refine' iadd_lists ?zF ?zN ?zb ?zne ?zU ?zz ?zz2 ?_; (case zF => k_asm); (case zN => k_asm); (case zb => k_mem); (case zU => k_upd); (case zne => (rw [hl5, List.size_toArray, ints_len hi6]; exact hl6.2)); (case zz => (rw [ints_len hi6]; omega)); (case zz2 => (rw [hl5, List.size_toArray, ints_len hi6]; omega)))); (intro h' F' N'); (try k_sweep))
    k_with "J2" => k_dflt (refine' j2_end ?zh ?zs ?zi ?zd; (case zh => (dsimp +zetaDelta only; intro y9; (by_cases hy9 : y9 = Str.ofString "span") <;> first | (rw [if_pos hy9, if_pos hy9]) | (rw [if_neg hy9, if_neg hy9]) | (rw [if_neg hy9, if_neg hy9, if_neg hy9]))); (case zs => k_subL); (case zi => (rw [hTs i6 d6 hd6]; exact ints_app hi6 hI5)); (case zd => assumption))
    k_with "execs cons Return nil" => (exfalso; exact bne_dead (by assumption))
    k_with "execs cons" => (k_gentoks; k_dflt (refine' tidyG ?zg ?zF ?ze ?_; (case zg => assumption); (case zF => k_asm); (case ze => rfl)))
    k_with "pyIter ref" => k_dflt ((have kf5 := Hide.mk (kept_facts kp9)); (rw [hTe] at hi6); (refine shut fun G0 hG0 => ?_); (obtain ⟨Fd9, Td9, Ld9, G3⟩ := found_way (wh := wh9) (es := spanOf ks9) w128 (by omega) (by rw [← hTe]; exact (hTl _).1) kf5.out.2.2.1 kf5.out.2.2.2); (refine hG0 ?_); (clear hG0 G0); k_dflt (refine' loop3 G3 hi6 ?zh ?zF ?zN ?z1 ?z2 ?z3 ?z4 ?zn ?yt ?yf; (case zh => rfl); (case zF => k_asm); (case zN => k_asm); (case z1 => rfl); (case z2 => rfl); (case z3 => rfl); (case z4 => rfl); (case zn => k_subL)); (case' yt => (intro I4 lI4; k_lt lI4; intro i4 e4 t4 h4 tk4 o4 tv4 lv4 fv4 bv4 nt4 nl4 nf4 nb4 u1 u2 he4 it4 il4 if4 ib4 ho4 F4 N4; (have px4 := Hide.mk (G3.px _ _ he4)); (have el4 := G3.elt _ _ he4); (have cl4 := common_lt w128 el4); (have ql4 := G3.fLen i4); (have qf4 := ints_len if4); (have qb4 := ints_len ib4); (rw [List.length_reverse] at qb4))); (case' yf => (intro h4 tk4 tv4 lv4 fv4 bv4 nt4 nl4 nf4 nb4 u1 u2 it4 il4 if4 ib4 F4 N4)))
    k_with "call ref" => k_dflt (k_dflt (refine' spec_vG1 ?zg ?ze (common_spec _ wh9 e4 _ _ ?q1 ?q2) ?B ?F ?X ?N ?T ?hk ?hd ?hu ?_; (case zg => assumption); (case q1 => assumption); (case q2 => assumption); walk_at "mine ret"; (case ze => rfl)); (intro t9 h9 tk9 F9 N9); (try dsimp only))
    k_with "call ref" => k_dflt (k_dflt (refine' spec_tG ?zg ?ze (parted_spec _ wh9 (common wh9 e4) _ _ ?q2) ?B ?F ?X ?N ?T ?hk ?hd ?hu ?_; (case zg => assumption); (case q2 => omega); walk_at "mine ret"; (case ze => rfl)); (intro a9 t9 u9 h9 tk9 F9 N9 O9); (replace O9 := allNe_of O9); (dsimp only [AllNe] at O9); (try dsimp only))
    k_with "storeName" => k_dflt ((with_reducible refine' store_part ?z1 ?_); (case z1 => exact px4); intro x4 hx4 x4lt)
    k_with "call builtin:list.insert nil" => k_dflt (k_dflt (show wpAny _ _ (call (Value.builtin "list.insert") [_, _, _]) _ _ _; refine' insert0_led ?F ?N ?U ?z ?_; (case F => k_asm); (case N => k_asm); (case U => k_upd); (case z => omega)); intro h' F' N'; (try dsimp only))
    k_with "call ref" => k_dflt (k_dflt (refine' insL_useG it4 (G3.tSrt i4) (G3.tLt i4) x4lt (G3.tLen i4) ?zg ?ze ?B ?F ?X ?N ?T ?hk ?hd ?hu ?U ?_; (case zg => assumption); walk_at "mine ret"; (case ze => rfl); (case U => k_upd)); intro h9 tk9 F9 N9; (try dsimp only))
    k_with "call ref" => k_dflt (k_dflt (refine' insR_useG il4 (G3.lSrt i4) (G3.lLt i4) x4lt (G3.lLen i4) ?zg ?ze ?B ?F ?X ?N ?T ?hk ?hd ?hu ?U ?_; (case zg => assumption); walk_at "mine ret"; (case ze => rfl); (case U => k_upd)); intro h9 tk9 F9 N9; (try dsimp only))
    k_with "J3" => k_dflt (refine' j3_end near3_end ?ys ?y1 ?y2 ?y3 ?y4; (case ys => k_subL); (case y1 => (rw [G3.tS _ _ he4, hx4.out]; exact ints_takes _ it4)); (case y2 => (rw [G3.lS _ _ he4, hx4.out]; exact ints_takes _ il4)); (case y3 => (rw [G3.fS _ _ he4, hx4.out]; exact ints_snoc if4)); (case y4 => (rw [G3.fS _ _ he4, hx4.out, List.reverse_append]; exact .cons _ _ ib4)))
    k_with "call builtin:sorted cons" => k_dflt (ksk_kw; k_dflt (refine' sort_size ib4 ?q1 ?q2 G3.perm2 G3.plen2 G3.pin2 ?B ?F ?X ?N ?T ?hk ?hd ?hu ?q3 ?_; (case q1 => exact fun d hd => G3.fLt _ d (List.mem_reverse.mp hd)); (case q2 => (rw [List.length_reverse]; exact G3.fLen _)); walk_at "mine ret"; (case q3 => k_mem)); (intro D3 h3 tk3 ys3 n3 hy3 F3 N3 lD3); (rw [← G3.told] at hy3); k_lt lD3)
    k_with "call builtin:sorted cons" => k_dflt (ksk_kw; k_dflt (refine' sort_size if4 (G3.fLt _) (G3.fLen _) G3.perm1 G3.plen1 G3.pin1 ?B ?F ?X ?N ?T ?hk ?hd ?hu ?q3 ?_; walk_at "mine ret"; (case q3 => k_mem)); (intro D3 h3 tk3 ys3 n3 hy3 F3 N3 lD3); (rw [← G3.laid] at hy3); k_lt lD3)
    k_with "call builtin:sorted cons" => k_dflt (k_dflt (show wpAny _ _ (call (Value.builtin "sorted") [Value.ref _] []) _ _ _; refine' kso_sorted ?F ?N ?hl if4 ?h64 ?_; (case F => k_asm); (case N => k_asm); (case hl => exact News.isList (by k_asm) (by k_mem)); (case h64 => (rw [List.length_map]; have := G3.fLen (spanOf ks9).length; omega))); (intro D2 v2 n2 c2 h2 F2 N2 l2 i2 e2 p2 o2 b2); clear b2; k_lt l2)
    k_with "call ref" => k_dflt ((refine' spec_useG ?zg ?ze (products_spec _ wh9 _ w128 ?q2) ?B ?F ?X ?N ?T ?hk ?hd ?hu ?_; (case zg => assumption); (case q2 => omega); walk_at "mine ret"; (case ze => rfl)); (intro r2 nx2 h2 tk2 F2 N2 O2 hR2); (refine shut fun G0 hG0 => ?_); (obtain ⟨a2, w2, m2, k2, q2, hm2, hi2, hp2, ho2⟩ := hR2); (refine hG0 ?_); (clear hG0 G0); (subst q2); (replace N2 := news_pick N2 hm2); (obtain rfl := sorted_same p2 hp2 o2 ho2 G3.prods); clear O2)
    k_with "compareOp Eq ref ref" => k_dflt (refine' eq_same ?za ?zb i2 hi2 ?zu ?_; (case za => exact News.isList (by k_asm) (by k_mem)); (case zb => exact News.isList (by k_asm) (by k_mem)); (case zu => ke_room))
    k_with "compareOp NotEq ref ref" => k_dflt (refine' ne_same ?za ?zb it4 hy3 ?zu ?_; (case za => exact News.isList (by k_asm) (by k_mem)); (case zb => exact News.isList (by k_asm) (by k_mem)); (case zu => ke_room))
    k_with "compareOp NotEq ref ref" => k_dflt (refine' ne_same ?za ?zb il4 hy3 ?zu ?_; (case za => exact News.isList (by k_asm) (by k_mem)); (case zb => exact News.isList (by k_asm) (by k_mem)); (case zu => ke_room))
    k_with "end" => first | rfl | decide
    k_with "LeaveM" => ((k_dflt (refine' leaveM_ ?zq3k1 ?zq3k2 ?_; (case zq3k1 => k_asm); (case zq3k2 => k_asm); k_whole); intro kF kN kK kO))
    k_with "execs cons" => (k_fold)
    k_with "storeName" => (dsimp only)
    k_with "newList" => (dsimp only)
    k_with "newTuple" => (dsimp only)
    k_with "truthy bool" => (dsimp only)
    k_with "spliced" => (dsimp only)
    k_with "callWith ref" => (dsimp only)
    k_with "compareOp" => (dsimp only)
    k_with "call ref" => (dsimp only)
    k_with "mine ret" => (((case B => k_asm); (case F => k_asm); (case X => k_asm); (case N => k_asm); (case T => k_asm); (case hk => first | exact rfl | assumption); (case hd => walk_at "mine units"); (case hu => walk_at "mine units")))
    k_with "mine units" => (k_dflt (first | exact unit0 (by assumption) | exact unit1 (by assumption) (by exact rfl) | exact unit2 (by assumption) (by exact rfl) | exact unit3 (by assumption) (by exact rfl) | decide))
    k_with "mine and" => ((first | with_reducible assumption | (apply And.right; first | with_reducible assumption | (apply And.right; first | with_reducible assumption | (apply And.right; first | with_reducible assumption | (apply And.right; first | with_reducible assumption | (apply And.right; first | with_reducible assumption | (apply And.right; first | with_reducible assumption | (apply And.right; first | with_reducible assumption | (apply And.right; with_reducible assumption))))))))))
    k_with "mine in" => (first | (apply And.left; walk_at "mine and") | walk_at "mine and")
    k_with "mine ne" => ((try dsimp only); first | (apply Nat.ne_of_lt; walk_at "mine in") | (apply Nat.ne_of_gt; walk_at "mine in") | walk_at "mine in" | (apply Ne.symm; walk_at "mine in"))
    k_with "binaryOp Add str str" => ((k_here; k_dflt (refine KLn.add_n (m := 8388608) (k := 8388608) ?zq51a ?zq51b (by decide) ?_; (case zq51a => first | decide | (rw [ofL_len]; (try simp only [List.length_append, List.length_cons, List.length_nil]); omega)); (case zq51b => first | decide | (rw [ofL_len]; (try simp only [List.length_append, List.length_cons, List.length_nil]); omega)); intro _ _ q1 q2 q3 q4; clear q1 q2 q3 q4; (try simp only [lit_bq]); rw [app_ofL]; (try simp only [List.cons_append, List.nil_append]))))
    k_with "call type:range cons nil" => ((k_here; k_dflt (refine range1_rows (by k_asm) (by k_asm) ?_; intro h' tk t₁ u₁ v₁ hr F' N' hK; clear hK)))
    k_with "call builtin:list.append cons" => (k_extra "call builtin:list.append nil")
    k_with "call builtin:list.append cons cons nil" => (k_extra "call builtin:list.append nil")
    k_with "exec For Name Name cons nil" => ((k_here; k_dflt (refine For_turns (by k_asm) ?_)))
    k_with "eval ListComp Name cons" => ((k_here; first | k_dflt (refine LCt.ListComp_T (iter := .Name _ _) (by k_asm) (by with_unfolding_all rfl) (by decide) (by rfl) (by decide) (by rfl) ?_) | k_dflt (refine ListComp_VT (iter := .Tuple _ _ _) (by k_asm) (by with_unfolding_all rfl) (by decide) (by rfl) (by decide) (by rfl) ?_)))
    k_with "eval ListComp Name cons" => (k_fold)
    k_steps)
end
end Mine
theorem PySem.Challenge.cw_ux0013_01_holds : PySem.Challenge.rw_ux0013_01.Holds := by
  exact Mine.law_holds
