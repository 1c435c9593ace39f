import PyProof.Rows.All
import Wide.All
import OpenK.AllK
import Wide.FinOn
import PySem.Challenge.RW_il0142_01
open PySem PySem.W PySem.Calls PyProof.Rows
set_option Elab.async false
set_option maxRecDepth 100000
set_option maxHeartbeats 8000000
set_option compiler.extract_closed false
set_option linter.unusedVariables false
set_option linter.unusedSimpArgs false
namespace Mine
section
theorem neg1 (n : Nat) : (-1 + ((n + 1 : Nat) : Int)) = (n : Int) := by omega
theorem neg1n (n : Nat) : (-1 + ((n + 1 : Nat) : Int)).toNat = n := by rw [neg1]; rfl
theorem roomE {d a c : Nat} (h : d + a < c) : d < c := Nat.lt_of_le_of_lt (Nat.le_add_right d a) h
theorem room0 {d a b c : Nat} (h : d + a < c) (e : b ≤ a) : d + b < c := Nat.lt_of_le_of_lt (Nat.add_le_add_left e d) h
theorem room1 {d k a b c : Nat} (h : d + a < c) (e : k + b ≤ a) : d + k + b < c := by rw [Nat.add_assoc]; exact room0 h e

section
variable {prog : Program} {w : World} {A : Around} {E : Value → Shared → Prop} {s : Shared}

theorem nested_str {k : Value} {dep : Int} {tk : Tok} {Q : Fin → Shared → Prop} (hk : k = .int dep tk)
    (hq : Q (.done (.ret (.bool true))) s) :
    wpAny (model prog w) A (Builtin.«issubclass.nested» ⟨[.type "str", .type "str", k], []⟩) Q E s := by
  subst hk
  have hself : isSubtype (.type "str") (.type "str") = pure true := by rw [isSubtype_type]; kernel_rfl
  have hm : (Value.type ((Manifest.find? "str").elim "type" fun y => y.metatype) == .type "type") = true := by decide +kernel
  repeat (any_goals (first | assumption | (rw [if_pos hm]) | (rw [hself]) | wp_step))

theorem issub_args_nested (a b c : Value) : argsOk "issubclass.nested" ⟨[a, b, c], []⟩ := by unfold argsOk; kernel_rfl
theorem issub_kind : builtinKind "issubclass.nested" = none := by decide +kernel
theorem issub_plain : plainId "issubclass.nested" = true := by decide +kernel

theorem issub_list {tp : Addr} {l r : List Value} {n : Nat} {Q : Value → Shared → Prop} (hl : l = .type "str" :: r)
    (htp : s.heap.get? tp = some { cls := .type "tuple", data := .seq l.toArray n })
    (hq : ∀ tk', Q (.bool true) { s with toks := tk' }) :
    wpAny (model prog w) A (PySem.call (.builtin "issubclass") [.type "str", .ref tp]) Q E s := by
  refine call_issubclass (S := fun _ R s => s.heap.get? tp = some { cls := .type "tuple", data := .seq l.toArray n } ∧ ∀ tk', R (.ok (.ret (.bool true))) { s with toks := tk' }) (fun _ _ _ R s hs => issubclass_outer ?_) ⟨htp, hq⟩
  obtain ⟨h, g, d, t, os⟩ := s
  obtain ⟨htp, hq⟩ := hs
  have hT2 : (⟨h, g, d, t, os⟩ : Shared).TypeIs (.ref tp) "tuple" := ⟨_, htp, rfl⟩
  have f1 := F.isi_sub_tuple
  unfold rawInt
  repeat (any_goals (first | assumption | wp_step))
  refine wpAny_arrayLoop ?_
  simp only [Option.getD_some, List.toList_toArray]
  rw [hl, List.forIn_cons]
  refine wpAny_bind (wpAny_bind (call_function_meets issub_kind issub_plain F.entry_issubclass_nested (issub_args_nested _ _ _)
    (S := fun _ R s => R (.ok (.ret (.bool true))) s) (fun _ _ _ _ _ hs => nested_str rfl hs) ?_))
  refine wpAny_bind (m := truthy (.bool true)) (wpAny_pure ?_)
  repeat (any_goals (first | assumption | wp_step))
  exact hq t

theorem issub_str {tp : Addr} {c : Value} {n : Nat} {Q : Value → Shared → Prop}
    (htp : s.heap.get? tp = some { cls := .type "tuple", data := .seq #[.type "str", c] n })
    (hq : ∀ tk', Q (.bool true) { s with toks := tk' }) :
    wpAny (model prog w) A (PySem.call (.builtin "issubclass") [.type "str", .ref tp]) Q E s := issub_list (r := [c]) rfl htp hq
end

noncomputable abbrev Keeps (h h' : Heap) : Prop := ∀ b o, h.get? b = some o → h'.get? b = some o
/-- an «around» without an exception in hand -/
noncomputable abbrev Ar (dp un : Nat) (fr : Option (List Env)) (gd : Option (List Code)) : Around := { handled := none, depth := dp, frames := fr, guards := gd, units := un }

theorem enter {prog : Program} {w : World} {A : Around} {s : Shared} {K : Frag} {Q E : Value → Shared → Prop}
    {p : Program} {loose : List Str} {mg mb : Str → Option Value}
    {name qual : Str} {params : Arguments} {body : List Stmt} {scope : Scope} {dV kV doc pm cdv ct oc : Value} {an od : Option Addr} {osl : Array (Option Value)} {f : Addr} {pos : List Value} {kw : List (Str × Value)} (binds : List (Str × Value))
    (X : K.In s.heap) (T : TopRead p loose mg mb s.heap)
    (ho : K.lookup f = some ⟨oc, od, .func (fnOf name qual params body scope dV kV doc pm an cdv ct), osl⟩) (hcd : codeIn K cdv qual = true) (hroom : A.depth < recursionLimit)
    (hbind : BindsTo s (fnOf name qual params body scope dV kV doc pm an cdv ct) ⟨pos, kw⟩ binds) (hloc : ∀ y ∈ binds, scope.names.lookup y.1 = some .local)
    (h : ∀ L' h₁, Fr s.heap L' h₁ (fun y => binds.reverse.lookup y) → News s.heap L' h₁ [] →
      wpAny (model prog w) (A.deeper (envOf qual scope L' f cdv)) (execs body (envOf qual scope L' f cdv))
        (fun fl s' => Q (match fl with | .ret v => v | _ => .none) s')
        (fun _ _ => False)
        { s with heap := h₁, toks := s.toks + binds.length })
    (hco : scope.isCoroutine = false) (hgen : scope.isGenerator = false) (hk : scope.kind = .function)
    (hcell : ∀ x ∈ scope.names, x.2 ≠ .cell) : wpAny (model prog w) A (PySem.call (.ref f) pos kw) Q E s := by
  refine wpAny_call ?_
  refine codeAny_call_def (fd := fnOf name qual params body scope dV kV doc pm an cdv ct) (body := body) (binds := binds) hroom (X _ _ ho) rfl T.nolimit (codeRec_of X hcd) rfl hbind hcell hloc (fun h₁ hns hk₁ => ?_) hco hgen hk
  exact wpAny_mono (h s.heap.objs.size h₁ ⟨hns, hk₁, Nat.le_refl _⟩ News.nil) (fun fl s' hl => hl) fun _ _ y => y.elim

/-- a def with *rest: the rest is a new tuple -/
theorem enterV {prog : Program} {w : World} {A : Around} {s : Shared} {K : Frag} {Q E : Value → Shared → Prop}
    {p : Program} {loose : List Str} {mg mb : Str → Option Value}
    {name qual : Str} {params : Arguments} {body : List Stmt} {scope : Scope} {dV kV doc pm cdv ct oc : Value} {an od : Option Addr} {osl : Array (Option Value)} {f : Addr} {pos : List Value} {kw : List (Str × Value)}
    (ys : List Value) (binds : Value → List (Str × Value))
    (X : K.In s.heap) (T : TopRead p loose mg mb s.heap)
    (ho : K.lookup f = some ⟨oc, od, .func (fnOf name qual params body scope dV kV doc pm an cdv ct), osl⟩) (hcd : codeIn K cdv qual = true) (hroom : A.depth < recursionLimit)
    (hbind : bindArgs (fnOf name qual params body scope dV kV doc pm an cdv ct) ⟨pos, kw⟩ = (newTuple ys >>= fun v => pure (binds v))) (hsz : ys.length ≤ sizeLine)
    (hloc : ∀ v, ∀ y ∈ binds v, scope.names.lookup y.1 = some .local)
    (h : ∀ D L' h₁ tk, Fr s.heap L' h₁ (fun y => (binds (.ref D)).reverse.lookup y) → News s.heap L' h₁ [(D, { cls := .type "tuple", data := .seq ys.toArray })] →
      wpAny (model prog w) (A.deeper (envOf qual scope L' f cdv)) (execs body (envOf qual scope L' f cdv))
        (fun fl s' => Q (match fl with | .ret v => v | _ => .none) s')
        (fun _ _ => False)
        { s with heap := h₁, toks := tk })
    (hco : scope.isCoroutine = false) (hgen : scope.isGenerator = false) (hk : scope.kind = .function)
    (hcell : ∀ x ∈ scope.names, x.2 ≠ .cell) : wpAny (model prog w) A (PySem.call (.ref f) pos kw) Q E s := by
  refine wpAny_call ?_
  refine codeAny_call_function (fd := fnOf name qual params body scope dV kV doc pm an cdv ct) (body := body) hroom (X _ _ ho) rfl hco hgen rfl (codeRec_of X hcd) ?_
  rw [hbind]
  refine wpAny_bind (wpAny_newObj_type (wpAny_pure ?_) (by show ys.toArray.size ≤ sizeLine; rw [List.size_toArray]; exact hsz))
  refine wpAny_newFunctionEnv hcell (hloc _) (fun h₁ hns hsb => ⟨?_, codeAny_func ?_⟩) hk
  · exact (T.nolimit.keeps fun b o e => Heap.get?_push_of_some _ e).fresh _ hsb
  · have hk₁ : ∀ b o, (s.heap.push { cls := .type "tuple", data := .seq ys.toArray }).get? b = some o → h₁.get? b = some o := fun b o e => hsb.extBut b o (Nat.ne_of_lt (Heap.lt_size e)) (Heap.get?_push_of_some _ e)
    refine wpAny_mono (h s.heap.objs.size (s.heap.push { cls := .type "tuple", data := .seq ys.toArray }).objs.size h₁ _ ⟨hns, fun b o e => hk₁ b o (Heap.get?_push_of_some _ e), ?_⟩ ?_) (fun fl s' hl => hl) fun _ _ y => y.elim
    · rw [Heap.size_push]; omega
    · intro p hp
      rw [List.mem_singleton.mp hp]
      refine ⟨hk₁ _ _ (Heap.get?_push_size _ rfl), ?_, Heap.get?_none_of_le (Nat.le_refl _)⟩
      show s.heap.objs.size ≠ (s.heap.push { cls := .type "tuple", data := .seq ys.toArray }).objs.size
      rw [Heap.size_push]; omega
end
section
set_option maxHeartbeats 400000

/-- a map of names: the written pairs first, then the rest -/
noncomputable def chain : List (Str × Value) → (Str → Option Value) → Str → Option Value
  | [], u => u
  | (x, v) :: r, u => fun y => if y = x then some v else chain r u y
noncomputable def AllAt (m : Str → Option Value) : List (Str × Value) → Prop
  | [] => True
  | (x, v) :: r => m x = some v ∧ AllAt m r
theorem chain_of {m : Str → Option Value} : ∀ {l : List (Str × Value)}, AllAt m l → chain l m = m
  | [], _ => rfl
  | (x, v) :: r, h => by
    funext y
    show (if y = x then some v else chain r m y) = m y
    rw [chain_of h.2]
    by_cases e : y = x
    · rw [if_pos e, e, h.1]
    · rw [if_neg e]
noncomputable def Sub (big : List (Addr × Obj)) : List (Addr × Obj) → Prop
  | [] => True
  | p :: r => p ∈ big ∧ Sub big r
theorem Sub.mem {big l : List (Addr × Obj)} (h : Sub big l) : ∀ p ∈ l, p ∈ big := by
  induction l with
  | nil => intro p hp; cases hp
  | cons a r ih =>
    intro p hp
    rcases List.mem_cons.mp hp with e | hp
    · rw [e]; exact h.1
    · exact ih h.2 p hp
theorem Sub.of_mem {big l : List (Addr × Obj)} (h : ∀ p ∈ l, p ∈ big) : Sub big l := by
  induction l with
  | nil => trivial
  | cons a r ih => exact ⟨h a (.head _), ih fun p hp => h p (.tail _ hp)⟩
/-- no object of a class n -/
noncomputable def Off (n : String) : List (Addr × Obj) → Prop
  | [] => True
  | p :: r => p.2.cls ≠ .type n ∧ Off n r
theorem Off.ne {n : String} {l : List (Addr × Obj)} (h : Off n l) : ∀ p ∈ l, p.2.cls ≠ .type n := by
  induction l with
  | nil => intro p hp; cases hp
  | cons a r ih =>
    intro p hp
    rcases List.mem_cons.mp hp with e | hp
    · rw [e]; exact h.1
    · exact ih h.2 p hp
theorem Off.of_ne {n : String} {l : List (Addr × Obj)} (h : ∀ p ∈ l, p.2.cls ≠ .type n) : Off n l := by
  induction l with
  | nil => trivial
  | cons a r ih => exact ⟨h a (.head _), ih fun p hp => h p (.tail _ hp)⟩
theorem Off.append {n : String} {a b : List (Addr × Obj)} (h : Off n a) (k : Off n b) : Off n (a ++ b) :=
  .of_ne fun p hp => (List.mem_append.mp hp).elim (h.ne p) (k.ne p)

noncomputable def AllNe (d : Addr) : List (Addr × Obj) → Prop
  | [] => True
  | p :: r => @Ne Nat p.1 d ∧ AllNe d r
theorem allNe_of {d : Addr} {l : List (Addr × Obj)} (h : ∀ p ∈ l, p.1 ≠ d) : AllNe d l := by
  induction l with
  | nil => trivial
  | cons p r ih => exact ⟨h p (.head _), ih fun q hq => h q (.tail _ hq)⟩
/-- the end of a loop's turn -/
noncomputable def TEnd {σ : Type} (g : Heap) (L : Addr) (Led : σ → List (Addr × Obj)) (ps : σ → List (Str × Value)) (P : σ → Prop) (icls : String) (it : Addr × Obj) (s₁ s₂ : Shared) : Prop :=
  ∃ c h' tk m' news', s₂ = { s₁ with heap := h', toks := tk } ∧ Fr g L h' m' ∧ News g L h' news' ∧ Sub news' (Led c) ∧ it ∈ news' ∧ Off icls (Led c) ∧ AllAt m' (ps c) ∧ P c
noncomputable def TPost {σ : Type} (g : Heap) (L : Addr) (Led : σ → List (Addr × Obj)) (ps : σ → List (Str × Value)) (P : σ → Prop) (icls : String) (it : Addr × Obj) (s₁ : Shared) (Q : Flow → Shared → Prop) (f : Flow) (s₂ : Shared) : Prop :=
  match f with
  | .ret v => Q (.ret v) s₂
  | .brk => Q .next s₂
  | _ => TEnd g L Led ps P icls it s₁ s₂
theorem TEnd.intro {σ : Type} {g : Heap} {L : Addr} {Led : σ → List (Addr × Obj)} {ps : σ → List (Str × Value)} {P : σ → Prop} {icls : String} {it : Addr × Obj} {s₁ : Shared} (c : σ) {h' : Heap} {tk : Nat} {m' : Str → Option Value} {news' : List (Addr × Obj)}
    (F : Fr g L h' m') (N : News g L h' news') (h1 : Sub news' (Led c)) (h2 : it ∈ news') (h3 : Off icls (Led c)) (h4 : AllAt m' (ps c)) (h5 : P c) : TEnd g L Led ps P icls it s₁ { s₁ with heap := h', toks := tk } :=
  ⟨c, h', tk, m', news', rfl, F, N, h1, h2, h3, h4, h5⟩

section
variable {prog : Program} {w : World} {A : Around} {E : Value → Shared → Prop} {s : Shared} {env : Env} {g : Heap} {x : Str} {body : List Stmt} {Q : Flow → Shared → Prop}

theorem for_core {σ : Type} {I : Addr} {src : List (Addr × Obj)} {n : Nat} {PV : Nat → Value → Prop} {St : Nat → Heap → Prop} {icls : String} {m₀ : Str → Option Value} {news : List (Addr × Obj)}
    (Led : σ → List (Addr × Obj)) (ps : σ → List (Str × Value)) (P : Nat → σ → Prop) (c₀ : σ)
    (W : Walks prog w A I (I :: src.map (·.1)) [I] n PV St)
    (hob : ∀ i h, St i h → ∃ o, h.get? I = some o ∧ o.cls = .type icls)
    (hsrc : ∀ q ∈ src, (∀ c, q ∈ Led c) ∨ g.get? q.1 = some q.2)
    (hst : St 0 s.heap) (hI : g.get? I = none) (hLI : env.locals ≠ I) (hLs : ∀ q ∈ src, env.locals ≠ q.1)
    (F : Fr g env.locals s.heap m₀) (N : News g env.locals s.heap news) (h1 : ∀ p ∈ Led c₀, p ∈ news) (h2 : Off icls (Led c₀)) (h3 : AllAt m₀ (ps c₀)) (h4 : P 0 c₀)
    (hIn : ∀ p ∈ news, p.1 ≠ I)
    (turn : ∀ i v c h tk it u, i < n → PV i v → P i c → Fr g env.locals h (fun y => if y = x then some v else chain (ps c) u y) → News g env.locals h ((I, it) :: Led c) → it.cls = .type icls → AllNe I (Led c) →
      wpAny (model prog w) A (execs body env) (TPost g env.locals Led ps (P (i + 1)) icls (I, it) { s with heap := h, toks := tk } Q) E { s with heap := h, toks := tk })
    (done : ∀ c h tk u, P n c → Fr g env.locals h (chain (ps c) u) → News g env.locals h (Led c) → Q .next { s with heap := h, toks := tk }) :
    LoopAtV prog w A g env x body Q E (.ref I) s := by
  refine ⟨I, _, [I], n, PV, St, m₀, Led c₀, (fun i m nx => ∃ c, nx = Led c ∧ AllAt m (ps c) ∧ P i c ∧ Off icls (Led c)), rfl, W, ?_, ?_, ?_, hst, F, (fun p hp => N p (h1 p hp)), ⟨c₀, rfl, h3, h4, h2⟩, ?_, ?_⟩
  · intro hm
    rcases List.mem_cons.mp hm with e | hm
    · exact hLI e
    · obtain ⟨q, hq, e⟩ := List.mem_map.mp hm
      exact hLs q hq e.symm
  · intro b hb
    rw [List.mem_singleton.mp hb]; exact hI
  · intro p hp hb
    exact hIn p (h1 p hp) (List.mem_singleton.mp hb)
  · rintro i v m₁ news₁ s₁ own ⟨hh, tk, rfl⟩ hi hP ⟨c, rfl, hps, hPc, hoff⟩ hnw hown hget hall hst₁ F₁ N₁
    obtain ⟨it, hit, hcl⟩ := hob _ _ hst₁
    have hio : (I, it) ∈ own := hall I (.head _) hI it hit
    have F₂ : Fr g env.locals hh (fun y => if y = x then some v else chain (ps c) m₁ y) := by rw [chain_of hps]; exact F₁
    have N₂ : News g env.locals hh ((I, it) :: Led c) := fun p hp => by
      rcases List.mem_cons.mp hp with rfl | hp
      · exact N₁ _ (List.mem_append_left _ hio)
      · exact N₁ _ (List.mem_append_right _ hp)
    refine wpAny_mono (turn i v c hh tk it m₁ hi hP hPc F₂ N₂ hcl (allNe_of fun p hp e => hnw p hp (by rw [e]; exact .head _))) (fun f s₂ p => ?_) fun _ _ e => e
    have fin : TEnd g env.locals Led ps (P (i + 1)) icls (I, it) { s with heap := hh, toks := tk } s₂ →
        LoopStepU g env.locals [I] own (fun m nx => ∃ c, nx = Led c ∧ AllAt m (ps c) ∧ P (i + 1) c ∧ Off icls (Led c)) { s with heap := hh, toks := tk } .next s₂ := by
      rintro ⟨c', h', tk', m', news', rfl, F', N', hsub, hit', hoff', hps', hP'⟩
      refine ⟨rfl, h', tk', m', Led c', rfl, F', fun p hp => ?_, fun p hp hb => ?_, c', rfl, hps', hP', hoff'⟩
      · rcases List.mem_append.mp hp with hp | hp
        · rcases List.mem_cons.mp (hown p hp) with e | hq
          · have h5 := hget p hp
            have h6 : p = (I, it) := Prod.ext e (by
              have h7 : hh.get? p.1 = some p.2 := h5
              rw [e, hit] at h7; exact (Option.some.inj h7).symm)
            rw [h6]; exact N' _ hit'
          · obtain ⟨q, hq, e⟩ := List.mem_map.mp hq
            have h5 : hh.get? p.1 = some p.2 := hget p hp
            rcases hsrc q hq with h7 | h7
            · have h8 := (N₁ q (List.mem_append_right _ (h7 c))).1
              have h9 : p = q := Prod.ext e.symm (by rw [← e] at h5; rw [show hh.get? q.1 = some q.2 from h8] at h5; exact (Option.some.inj h5).symm)
              rw [h9]; exact N' _ (hsub.mem q (h7 c'))
            · have h8 := (N₁ p (List.mem_append_left _ hp)).2.2
              rw [← e, h7] at h8; cases h8
        · exact N' p (hsub.mem p hp)
      · have e : p.1 = I := List.mem_singleton.mp hb
        have h5 := (N' p (hsub.mem p hp)).1
        rw [e, (N' _ hit').1] at h5
        have h6 : p.2 = it := (Option.some.inj h5).symm
        exact hoff'.ne p hp (by rw [h6]; exact hcl)
    cases f with
    | ret v => exact .ret p
    | brk => exact .brk p
    | next => exact .next (fin p)
    | cont => exact .cont (fin p)
  · rintro h' tk m' news' F' N' _ ⟨c, rfl, hps, hP, _⟩
    refine done c h' tk m' hP ?_ N'
    rw [chain_of hps]; exact F'

/-- where a list or a tuple stands: in the ledger all the time, or in the ground -/
noncomputable def Stands {σ : Type} (g : Heap) (Led : σ → List (Addr × Obj)) (q : Addr × Obj) : Prop := (∀ c, q ∈ Led c) ∨ g.get? q.1 = some q.2
theorem Stands.now {σ : Type} {Led : σ → List (Addr × Obj)} {q : Addr × Obj} {L : Addr} {h : Heap} {m : Str → Option Value} {news : List (Addr × Obj)} (x : Stands g Led q) (F : Fr g L h m) (N : News g L h news) (c₀ : σ) (h1 : ∀ p ∈ Led c₀, p ∈ news) : h.get? q.1 = some q.2 ∧ q.1 ≠ L := by
  rcases x with x | x
  · have := N q (h1 q (x c₀)); exact ⟨this.1, this.2.1⟩
  · exact ⟨F.keep _ _ x, Nat.ne_of_lt (Nat.lt_of_lt_of_le (Heap.lt_size x) F.above)⟩

theorem for_list {σ : Type} {l : Addr} {vs : List Value} {nn : Nat} {m₀ : Str → Option Value} {news : List (Addr × Obj)}
    (Led : σ → List (Addr × Obj)) (ps : σ → List (Str × Value)) (P : Nat → σ → Prop) (c₀ : σ)
    (hh : A.handled = none) (hsrc : Stands g Led (l, listOf vs.toArray nn))
    (F : Fr g env.locals s.heap m₀) (N : News g env.locals s.heap news) (h1 : Sub news (Led c₀)) (h2 : Off "list_iterator" (Led c₀)) (h3 : AllAt m₀ (ps c₀)) (h4 : P 0 c₀)
    (turn : ∀ i v c h tk I it u, vs[i]? = some v → P i c → Fr g env.locals h (fun y => if y = x then some v else chain (ps c) u y) → News g env.locals h ((I, it) :: Led c) → it.cls = .type "list_iterator" → AllNe I (Led c) →
      wpAny (model prog w) A (execs body env) (TPost g env.locals Led ps (P (i + 1)) "list_iterator" (I, it) { s with heap := h, toks := tk } Q) E { s with heap := h, toks := tk })
    (done : ∀ c h tk u, P vs.length c → Fr g env.locals h (chain (ps c) u) → News g env.locals h (Led c) → Q .next { s with heap := h, toks := tk }) :
    wpAny (model prog w) A (pyIter (.ref l)) (fun it s₂ => LoopAtV prog w A g env x body Q E it s₂) E s := by
  obtain ⟨hol, hlL⟩ := hsrc.now F N c₀ h1.mem
  have hls : s.heap.IsList l vs.toArray := ⟨_, hol, rfl, nn, rfl⟩
  have hne : l ≠ s.heap.objs.size := Nat.ne_of_lt (Heap.lt_size hol)
  refine wpAny_pyIter_list hls ?_
  have W := Walks.list (prog := prog) (w := w) hh s.heap.objs.size l hne vs.toArray
  have hlen : vs.toArray.size = vs.length := by simp
  rw [hlen] at W
  refine for_core (s := { s with heap := s.heap.push _ }) (src := [(l, listOf vs.toArray nn)]) (icls := "list_iterator") Led ps P c₀ W ?_ ?_ ⟨⟨_, Heap.get?_push_size _ rfl, rfl, rfl⟩, hls.at fun o e => Heap.get?_push_of_some _ e⟩ (next_is_new F) (Nat.ne_of_lt F.ns.lt) ?_ (F.push _) (fun p hp => ⟨Heap.get?_push_of_some _ (N p hp).1, (N p hp).2⟩) h1.mem h2 h3 h4 ?_ ?_ ?_
  · rintro i h ⟨⟨o, a, b, _⟩, _⟩; exact ⟨o, a, b⟩
  · intro q hq; rw [List.mem_singleton.mp hq]; exact hsrc
  · intro q hq; rw [List.mem_singleton.mp hq]; exact fun e => hlL e.symm
  · intro p hp e; exact absurd (Heap.lt_size (N p hp).1) (e ▸ Nat.lt_irrefl _)
  · intro i v c h tk it u hi hP hPc F' N' hcl hne
    exact turn i v c h tk _ it u (by simpa using hP) hPc F' N' hcl hne
  · exact fun c h tk u a b d => done c h tk u a b d

theorem for_tup {σ : Type} {l : Addr} {vs : List Value} {nn : Nat} {m₀ : Str → Option Value} {news : List (Addr × Obj)}
    (Led : σ → List (Addr × Obj)) (ps : σ → List (Str × Value)) (P : Nat → σ → Prop) (c₀ : σ)
    (hh : A.handled = none) (hsrc : Stands g Led (l, { cls := .type "tuple", data := .seq vs.toArray nn }))
    (F : Fr g env.locals s.heap m₀) (N : News g env.locals s.heap news) (h1 : Sub news (Led c₀)) (h2 : Off "tuple_iterator" (Led c₀)) (h3 : AllAt m₀ (ps c₀)) (h4 : P 0 c₀)
    (turn : ∀ i v c h tk I it u, vs[i]? = some v → P i c → Fr g env.locals h (fun y => if y = x then some v else chain (ps c) u y) → News g env.locals h ((I, it) :: Led c) → it.cls = .type "tuple_iterator" → AllNe I (Led c) →
      wpAny (model prog w) A (execs body env) (TPost g env.locals Led ps (P (i + 1)) "tuple_iterator" (I, it) { s with heap := h, toks := tk } Q) E { s with heap := h, toks := tk })
    (done : ∀ c h tk u, P vs.length c → Fr g env.locals h (chain (ps c) u) → News g env.locals h (Led c) → Q .next { s with heap := h, toks := tk }) :
    wpAny (model prog w) A (pyIter (.ref l)) (fun it s₂ => LoopAtV prog w A g env x body Q E it s₂) E s := by
  obtain ⟨hol, hlL⟩ := hsrc.now F N c₀ h1.mem
  have hls : s.heap.IsTuple l vs.toArray := ⟨_, hol, rfl, nn, rfl⟩
  have hne : l ≠ s.heap.objs.size := Nat.ne_of_lt (Heap.lt_size hol)
  refine wpAny_pyIter_tuple hls ?_
  have W := Walks.tuple (prog := prog) (w := w) hh s.heap.objs.size l hne vs.toArray
  have hlen : vs.toArray.size = vs.length := by simp
  rw [hlen] at W
  refine for_core (s := { s with heap := s.heap.push _ }) (src := [(l, { cls := .type "tuple", data := .seq vs.toArray nn })]) (icls := "tuple_iterator") Led ps P c₀ W ?_ ?_ ⟨⟨_, Heap.get?_push_size _ rfl, rfl, rfl⟩, hls.at fun o e => Heap.get?_push_of_some _ e⟩ (next_is_new F) (Nat.ne_of_lt F.ns.lt) ?_ (F.push _) (fun p hp => ⟨Heap.get?_push_of_some _ (N p hp).1, (N p hp).2⟩) h1.mem h2 h3 h4 ?_ ?_ ?_
  · rintro i h ⟨⟨o, a, b, _⟩, _⟩; exact ⟨o, a, b⟩
  · intro q hq; rw [List.mem_singleton.mp hq]; exact hsrc
  · intro q hq; rw [List.mem_singleton.mp hq]; exact fun e => hlL e.symm
  · intro p hp e; exact absurd (Heap.lt_size (N p hp).1) (e ▸ Nat.lt_irrefl _)
  · intro i v c h tk it u hi hP hPc F' N' hcl hne
    exact turn i v c h tk _ it u (by simpa using hP) hPc F' N' hcl hne
  · exact fun c h tk u a b d => done c h tk u a b d
end
end
section
set_option maxHeartbeats 400000

theorem news_add {g h h' : Heap} {L a : Addr} {o : Obj} {m : Str → Option Value} {news : List (Addr × Obj)} (k : Keeps h h') (fr : h.get? a = none) (ob : h'.get? a = some o) (F : Fr g L h m) (N : News g L h news) :
    News g L h' ((a, o) :: news) := fun p hp => by
  rcases List.mem_cons.mp hp with e | hp
  · rw [e]
    refine ⟨ob, fun e2 => ?_, ?_⟩
    · obtain ⟨oL, _, _, hL, _⟩ := F.ns
      rw [show a = L from e2, hL] at fr; cases fr
    · cases q : g.get? a with
      | none => rfl
      | some o' => rw [F.keep _ _ q] at fr; cases fr
  · exact ⟨k _ _ (N p hp).1, (N p hp).2⟩
theorem news_ne {g h : Heap} {L a : Addr} {news : List (Addr × Obj)} (fr : h.get? a = none) (N : News g L h news) : AllNe a news :=
  allNe_of fun p hp e => by rw [← e, (N p hp).1] at fr; cases fr

noncomputable abbrev tupOf (vs : List Value) (n : Nat := 0) : Obj := { cls := .type "tuple", data := .seq vs.toArray n }

theorem slash_len : (Str.ofString "/").length = 1 := by decide +kernel

/-- one more part behind a path -/
noncomputable def joinStep (path b : Str) : Str :=
  if Txt.startswith b (Str.ofString "/") = true ∨ path.length = 0 then b
  else if Txt.endswith path (Str.ofString "/") = true then path ++ b else path ++ ((Str.ofString "/") ++ b)
theorem joinStep_len (p b : Str) : (joinStep p b).length ≤ p.length + (b.length + 1) := by
  unfold joinStep
  have := slash_len
  split
  · omega
  · split <;> simp only [PySem.Str.length_append] <;> omega
theorem foldJoin_len (ys : List Str) : ∀ x : Str, (ys.foldl joinStep x).length ≤ x.length + (ys.map fun y => y.length + 1).sum := by
  induction ys with
  | nil => intro x; simp
  | cons y r ih =>
    intro x
    have h1 := ih (joinStep x y)
    have h2 := joinStep_len x y
    simp only [List.foldl_cons, List.map_cons, List.sum_cons]
    omega
theorem sum_take_le (l : List Nat) : ∀ i, (l.take i).sum ≤ l.sum := by
  induction l with
  | nil => intro i; simp
  | cons a r ih => intro i; cases i with
    | zero => simp
    | succ i => simp only [List.take_succ_cons, List.sum_cons]; have := ih i; omega
theorem joinStep_abs {p b : Str} (h : Txt.startswith b (Str.ofString "/") = true) : joinStep p b = b := by unfold joinStep; rw [if_pos (.inl h)]
theorem joinStep_nil {p b : Str} (h : (p.length : Int) = 0) : joinStep p b = b := by unfold joinStep; rw [if_pos (.inr (by omega))]
theorem joinStep_end {p b : Str} (h1 : Txt.startswith b (Str.ofString "/") = false) (h2 : (p.length : Int) ≠ 0) (h3 : Txt.endswith p (Str.ofString "/") = true) : joinStep p b = p ++ b := by
  unfold joinStep; rw [if_neg (by rw [h1]; simp; omega), if_pos h3]
theorem joinStep_mid {p b : Str} (h1 : Txt.startswith b (Str.ofString "/") = false) (h2 : (p.length : Int) ≠ 0) (h3 : Txt.endswith p (Str.ofString "/") = false) : joinStep p b = p ++ ((Str.ofString "/") ++ b) := by
  unfold joinStep; rw [if_neg (by rw [h1]; simp; omega), if_neg (by rw [h3]; simp)]
theorem sum_len_le (ys : List Str) : ys.length ≤ (ys.map fun y => y.length + 1).sum := by
  induction ys with
  | nil => simp
  | cons y r ih => simp only [List.length_cons, List.map_cons, List.sum_cons]; omega
theorem strsAre_get {vs : List Value} {ys : List Str} (h : StrsAre vs ys) : ∀ {i : Nat} {v : Value}, vs[i]? = some v → ∃ y t, v = .str y t ∧ ys[i]? = some y := by
  induction h with
  | nil => intro i v e; simp at e
  | cons y t _ ih =>
    intro i v e
    cases i with
    | zero => simp at e; exact ⟨y, t, e.symm, rfl⟩
    | succ i => simp at e; obtain ⟨y', t', a, b⟩ := ih e; exact ⟨y', t', a, by simpa using b⟩
theorem strsAre_len {vs : List Value} {ys : List Str} (h : StrsAre vs ys) : vs.length = ys.length := by
  induction h with
  | nil => rfl
  | cons y t _ ih => simp [ih]
theorem strsAre_app {vs ws : List Value} {ys zs : List Str} (h : StrsAre vs ys) (k : StrsAre ws zs) : StrsAre (vs ++ ws) (ys ++ zs) := by
  induction h with
  | nil => exact k
  | cons y t _ ih => exact .cons y t ih
theorem strsAre_snoc {vs : List Value} {ys : List Str} (h : StrsAre vs ys) (y : Str) (t : Tok) : StrsAre (vs ++ [.str y t]) (ys ++ [y]) := strsAre_app h (.cons y t .nil)
theorem take_foldl {α β : Type} (f : β → α → β) (l : List α) (b : β) {i : Nat} {a : α} (h : l[i]? = some a) : (l.take (i + 1)).foldl f b = f ((l.take i).foldl f b) a := by
  rw [List.take_add_one, h]; simp

/-- what split hands back, as the text reckons it -/
noncomputable def splitS (x : Str) : Str × Str :=
  let i := Txt.rfind x (Str.ofString "/") + 1
  let hd := Txt.slice x none (some i)
  let tl := Txt.slice x (some i) none
  if (hd.length : Int) = 0 then (hd, tl)
  else if (hd != Txt.mul (Str.ofString "/") (hd.length : Int)) = true then (Txt.rstripChars hd (Str.ofString "/"), tl) else (hd, tl)
/-- what splitroot hands back, as the text reckons it: the root and the rest -/
noncomputable def rootS (x : Str) : Str × Str :=
  if (Txt.slice x none (some 1) != Str.ofString "/") = true then (Str.ofString "", x)
  else if (Txt.slice x (some 1) (some 2) != Str.ofString "/") = true ∨ (Txt.slice x (some 2) (some 3) == Str.ofString "/") = true then (Str.ofString "/", Txt.slice x (some 1) none)
  else (Txt.slice x none (some 2), Txt.slice x (some 2) none)
theorem rootS_len (x : Str) : (rootS x).2.length ≤ x.length ∧ (rootS x).1.length ≤ 2 := by
  have s0 : (Str.ofString "").length = 0 := by decide +kernel
  have s1 := slash_len
  have s2 : (Txt.slice x none (some 2)).length ≤ 2 := by
    by_cases h : x.length ≤ 2
    · exact Nat.le_trans (Txt.slice_le _ _ _) h
    · have e : Txt.slice x none (some 2) = _ := StrLaws.sliceText_to (x := x) (j := 2) ⟨by decide, by show (2 : Int) ≤ (x.cps.toList.length : Nat); rw [Array.length_toList]; have : x.cps.size = x.length := rfl; omega⟩
      rw [e]
      show (List.take _ _).toArray.size ≤ 2
      simp; omega
  unfold rootS
  split
  · exact ⟨Nat.le_refl _, by show (Str.ofString "").length ≤ 2; omega⟩
  · split
    · exact ⟨Txt.slice_le _ _ _, by show (Str.ofString "/").length ≤ 2; omega⟩
    · exact ⟨Txt.slice_le _ _ _, s2⟩

section
variable {prog : Program} {w : World} {A : Around} {E : Value → Shared → Prop} {s : Shared} {g : Heap} {L D : Addr} {m : Str → Option Value} {news news' : List (Addr × Obj)}
theorem ltruthy {vs : List Value} {n : Nat} {b : Bool} {Q : Bool → Shared → Prop} (N : News g L s.heap news) (hm : (D, listOf vs.toArray n) ∈ news) (hb : (!vs.isEmpty) = b) (hz : vs.length ≤ 16777216)
    (h : ∀ tk, Q b { s with toks := tk }) : wpAny (model prog w) A (truthy (.ref D)) Q E s :=
  wpAny_truthy_list ⟨_, (N _ hm).1, rfl, n, rfl⟩ (by rw [List.size_toArray]; omega) (by
    have e : (!vs.toArray.isEmpty) = b := by rw [← hb]; simp
    rw [e]; exact h _)
theorem lgetneg {vs : List Value} {y : Value} {n : Nat} {t : Tok} {Q : Value → Shared → Prop} (N : News g L s.heap news) (hm : (D, listOf (vs ++ [y]).toArray n) ∈ news)
    (h : Q y s) : wpAny (model prog w) A (getItem (.ref D) (.int (-1) t)) Q E s :=
  wpAny_getItem_list_neg (items := (vs ++ [y]).toArray) ⟨_, (N _ hm).1, rfl, n, rfl⟩ (by decide) (by simp; omega) (by decide) (by
    have e : (-1 + ((vs ++ [y]).toArray.size : Int)).toNat = vs.length := by rw [List.size_toArray, List.length_append]; exact neg1n _
    rw [e]; simp) h
theorem lpop {vs : List Value} {y : Value} {n : Nat} {Q : Value → Shared → Prop} (F : Fr g L s.heap m) (N : News g L s.heap news) (U : Upd D (listOf (vs ++ [y]).toArray n) (listOf vs.toArray (n + 1)) news news') (hz : vs.length + 1 ≤ sizeLine)
    (h : ∀ h', Fr g L h' m → News g L h' news' → Q y { s with heap := h' }) : wpAny (model prog w) A (call (.builtin "list.pop") [.ref D]) Q E s :=
  kl_pop F N (kpa_last y vs) U (by simpa using hz) h
theorem lappend {vs : List Value} {n : Nat} {x : Value} {Q : Value → Shared → Prop} (F : Fr g L s.heap m) (N : News g L s.heap news) (U : Upd D (listOf vs.toArray n) (listOf (vs ++ [x]).toArray (n + 1)) news news') (hz : vs.length ≤ sizeLine)
    (h : ∀ h', Fr g L h' m → News g L h' news' → Q .none { s with heap := h' }) : wpAny (model prog w) A (call (.builtin "list.append") [.ref D, x]) Q E s :=
  append_K F N (its := vs.toArray) (by rw [List.push_toArray]; exact U) h (by rw [List.size_toArray]; exact hz)
end
/-- one more part in normpath's list -/
noncomputable def normStep (cs : List Str) (c : Str) : List Str :=
  if (c.length : Int) = 0 ∨ (c == Str.ofString ".") = true then cs
  else if (c != Str.ofString "..") = true then cs ++ [c]
  else if (cs.getLast?.map fun y => y == Str.ofString "..") = some true then cs ++ [c]
  else cs.dropLast
noncomputable def normS (x : Str) : Str := (rootS x).1 ++ Str.join (Str.ofString "/") ((Txt.split (rootS x).2 (Str.ofString "/")).foldl normStep [])
theorem join_parts_len : ∀ ys : List Str, ys.length ≤ (Str.join (Str.ofString "/") ys).length + 1
  | [] => by simp
  | [y] => by simp
  | y :: z :: r => by
    have h := join_parts_len (z :: r)
    have s1 := slash_len
    show (y :: z :: r).length ≤ (y ++ Str.ofString "/" ++ Str.join (Str.ofString "/") (z :: r)).length + 1
    rw [PySem.Str.length_append, PySem.Str.length_append]
    simp only [List.length_cons] at h ⊢; omega
theorem split_count (x : Str) : (Txt.split x (Str.ofString "/")).length ≤ x.length + 1 := by
  have h := join_parts_len (Txt.split x (Str.ofString "/"))
  rwa [StrLaws.join_split] at h
theorem normStep_len (cs : List Str) (c : Str) : (normStep cs c).length ≤ cs.length + 1 := by
  unfold normStep
  split
  · omega
  · split
    · simp
    · split
      · simp
      · simp; omega
theorem foldNorm_len (ys : List Str) : ∀ cs : List Str, (ys.foldl normStep cs).length ≤ cs.length + ys.length := by
  induction ys with
  | nil => intro cs; simp
  | cons y r ih => intro cs; have h := ih (normStep cs y); have k := normStep_len cs y; simp only [List.foldl_cons, List.length_cons]; omega
theorem strsAre_unsnoc {vs : List Value} {v : Value} {zs : List Str} (h : StrsAre (vs ++ [v]) zs) : ∃ ys y t, v = .str y t ∧ zs = ys ++ [y] ∧ StrsAre vs ys := by
  induction vs generalizing zs with
  | nil =>
    cases h with
    | cons y t h => cases h; exact ⟨[], y, t, rfl, rfl, .nil⟩
  | cons a r ih =>
    cases h with
    | cons y t h =>
      obtain ⟨ys, z, t', e1, e2, e3⟩ := ih h
      exact ⟨y :: ys, z, t', e1, by rw [e2]; rfl, .cons y t e3⟩
theorem normStep_skip {cs : List Str} {c : Str} (h : (c.length : Int) = 0 ∨ (c == Str.ofString ".") = true) : normStep cs c = cs := by unfold normStep; rw [if_pos h]
theorem normStep_in {cs : List Str} {c : Str} (h1 : (c.length : Int) ≠ 0) (h2 : (c == Str.ofString ".") = false) (h3 : (c != Str.ofString "..") = true) : normStep cs c = cs ++ [c] := by
  unfold normStep; rw [if_neg (by rw [h2]; simpa using h1), if_pos h3]
theorem normStep_in2 {cs : List Str} {c y : Str} (h1 : (c.length : Int) ≠ 0) (h2 : (c == Str.ofString ".") = false) (h3 : (c != Str.ofString "..") = false) (h4 : (y == Str.ofString "..") = true) : normStep (cs ++ [y]) c = cs ++ [y] ++ [c] := by
  unfold normStep; rw [if_neg (by rw [h2]; simpa using h1), if_neg (by rw [h3]; simp), if_pos (by simp [h4])]
theorem normStep_up {cs : List Str} {c y : Str} (h1 : (c.length : Int) ≠ 0) (h2 : (c == Str.ofString ".") = false) (h3 : (c != Str.ofString "..") = false) (h4 : (y == Str.ofString "..") = false) : normStep (cs ++ [y]) c = cs := by
  unfold normStep; rw [if_neg (by rw [h2]; simpa using h1), if_neg (by rw [h3]; simp), if_neg (by simp [h4])]; simp
theorem normStep_nil {c : Str} (h1 : (c.length : Int) ≠ 0) (h2 : (c == Str.ofString ".") = false) (h3 : (c != Str.ofString "..") = false) : normStep [] c = [] := by
  unfold normStep; rw [if_neg (by rw [h2]; simpa using h1), if_neg (by rw [h3]; simp)]; rfl
theorem lsnoc {α : Type} (l : List α) : l = [] ∨ ∃ a b, l = a ++ [b] := by
  rcases List.eq_nil_or_concat l with h | ⟨a, b, h⟩
  · exact .inl h
  · exact .inr ⟨a, b, by rw [h, List.concat_eq_append]⟩
theorem strsAre_values {vs : List Value} {ys : List Str} (h : StrsAre vs ys) : ∃ l, vs = strValues l ∧ l.map (·.1) = ys := by
  induction h with
  | nil => exact ⟨[], rfl, rfl⟩
  | cons y t _ ih => obtain ⟨l, e1, e2⟩ := ih; exact ⟨(y, t) :: l, by rw [e1]; rfl, by rw [← e2]; rfl⟩
theorem normStep_mem {cs : List Str} {c y : Str} (h : y ∈ normStep cs c) : y ∈ cs ∨ y = c := by
  unfold normStep at h
  split at h
  · exact .inl h
  · split at h
    · simpa using h
    · split at h
      · simpa using h
      · exact .inl (List.dropLast_subset _ h)
theorem foldNorm_mem (ys : List Str) : ∀ (cs : List Str) {y : Str}, y ∈ ys.foldl normStep cs → y ∈ cs ∨ y ∈ ys := by
  induction ys with
  | nil => intro cs y h; exact .inl h
  | cons a r ih =>
    intro cs y h
    rcases ih _ h with h | h
    · rcases normStep_mem h with h | h
      · exact .inl h
      · exact .inr (by rw [h]; exact .head _)
    · exact .inr (.tail _ h)
section
variable {prog : Program} {w : World} {A : Around} {E : Value → Shared → Prop} {s : Shared} {g : Heap} {L D : Addr} {m : Str → Option Value} {news news' : List (Addr × Obj)}
theorem ljoin {vs : List Value} {ys : List Str} {n : Nat} {x : Str} {t : Tok} {Q : Value → Shared → Prop} (N : News g L s.heap news) (hm : (D, listOf vs.toArray n) ∈ news) (hi : StrsAre vs ys)
    (hz : (ys.map (·.length)).sum + ys.length * x.length ≤ 16777216) (hq : ∀ t' k, Q (.str (Str.join x ys) t') { s with toks := k }) : wpAny (model prog w) A (call (.builtin "str.join") [.str x t, .ref D]) Q E s := by
  obtain ⟨l, rfl, hl⟩ := strsAre_values hi
  refine SC.join (texts := ys) ⟨_, (N _ hm).1, rfl, n, rfl⟩ hl ?_ (by rw [show Txt.join x ys = Str.join x ys from StrLaws.glued_eq_join _ _]; exact hq)
  unfold JoinOk Builtin.Str.tooLong
  rw [StrLaws.joinTotal, sizeLine_eq]
  simp only [Bool.not_eq_true', decide_eq_false_iff_not]
  omega
end
theorem norm_sum {x : Str} (hx : x.length ≤ 1000) :
    (((Txt.split (rootS x).2 (Str.ofString "/")).foldl normStep []).map (·.length)).sum + ((Txt.split (rootS x).2 (Str.ofString "/")).foldl normStep []).length * (Str.ofString "/").length ≤ 1002001 := by
  have h1 := rootS_len x
  have h2 := split_count (rootS x).2
  have h3 := foldNorm_len (Txt.split (rootS x).2 (Str.ofString "/")) []
  have h4 := StrLaws.sumLen_le (B := 1000) ((Txt.split (rootS x).2 (Str.ofString "/")).foldl normStep []) fun y hy => by
    rcases foldNorm_mem _ _ hy with h | h
    · cases h
    · have := part_short h; omega
  have h5 := slash_len
  rw [h5]
  simp only [List.length_nil] at h3
  have h6 : ((Txt.split (rootS x).2 (Str.ofString "/")).foldl normStep []).length ≤ 1001 := by omega
  have h7 : ((Txt.split (rootS x).2 (Str.ofString "/")).foldl normStep []).length * 1000 ≤ 1001 * 1000 := Nat.mul_le_mul_right _ h6
  omega
end
section
set_option maxHeartbeats 400000
theorem ne_cls {g h : Heap} {L a b : Addr} {o1 o2 : Obj} {news : List (Addr × Obj)} (N : News g L h news) (h1 : (a, o1) ∈ news) (h2 : (b, o2) ∈ news) (hc : o1.cls ≠ o2.cls) : @Ne Nat a b := fun e => by
  have e1 := (N _ h1).1
  have e2 := (N _ h2).1
  dsimp only at e1 e2
  rw [show a = b from e, e2] at e1
  exact hc (congrArg Obj.cls (Option.some.inj e1)).symm
/-- where the walk stands still -/
noncomputable def Stop (p : Prop) : Prop := p
theorem stop {p : Prop} (h : Stop p) : p := h
/-- the end of a while's turn -/
noncomputable def WEnd {σ : Type} (g : Heap) (L : Addr) (Led : σ → List (Addr × Obj)) (ps : σ → List (Str × Value)) (P : σ → Prop) (μ : σ → Nat) (k : Nat) (s₁ s₂ : Shared) : Prop :=
  ∃ c h' tk m' news', s₂ = { s₁ with heap := h', toks := tk } ∧ Fr g L h' m' ∧ News g L h' news' ∧ Sub news' (Led c) ∧ AllAt m' (ps c) ∧ P c ∧ μ c < k
noncomputable def WPost {σ : Type} (g : Heap) (L : Addr) (Led : σ → List (Addr × Obj)) (ps : σ → List (Str × Value)) (P : σ → Prop) (μ : σ → Nat) (k : Nat) (s₁ : Shared) (Q : Flow → Shared → Prop) (f : Flow) (s₂ : Shared) : Prop :=
  match f with
  | .ret v => Q (.ret v) s₂
  | .brk => Q .next s₂
  | _ => WEnd g L Led ps P μ k s₁ s₂
theorem WEnd.intro {σ : Type} {g : Heap} {L : Addr} {Led : σ → List (Addr × Obj)} {ps : σ → List (Str × Value)} {P : σ → Prop} {μ : σ → Nat} {k : Nat} {s₁ : Shared} (c : σ) {h' : Heap} {tk : Nat} {m' : Str → Option Value} {news' : List (Addr × Obj)}
    (F : Fr g L h' m') (N : News g L h' news') (h1 : Sub news' (Led c)) (h4 : AllAt m' (ps c)) (h5 : P c) (h6 : μ c < k) : WEnd g L Led ps P μ k s₁ { s₁ with heap := h', toks := tk } :=
  ⟨c, h', tk, m', news', rfl, F, N, h1, h4, h5, h6⟩
section
variable {prog : Program} {w : World} {A : Around} {E : Value → Shared → Prop} {s : Shared} {env : Env} {g : Heap} {L : Addr} {Q : Flow → Shared → Prop}
theorem while_st {σ : Type} {test : Expr} {body : List Stmt} {pos : Pos} {m₀ : Str → Option Value} {news : List (Addr × Obj)}
    (Led : σ → List (Addr × Obj)) (ps : σ → List (Str × Value)) (P : σ → Prop) (μ : σ → Nat) (c₀ : σ)
    (F : Fr g L s.heap m₀) (N : News g L s.heap news) (h1 : Sub news (Led c₀)) (h3 : AllAt m₀ (ps c₀)) (h4 : P c₀)
    (turn : ∀ c h tk u, P c → Fr g L h (chain (ps c) u) → News g L h (Led c) →
      wpAny (model prog w) A (isTrue test env (eval test env)) (fun b s₂ => WhlIf b (wpAny (model prog w) A (execs body env) (WPost g L Led ps P μ (μ c) { s with heap := h, toks := tk } Q) E s₂) (Q .next s₂)) E { s with heap := h, toks := tk })
    (hE : PassesOwn (model prog w) A env E := by passes_own) :
    wpAny (model prog w) A (exec (.While test body [] pos) env) Q E s := by
  refine While_inv2 (fun n m nx => ∃ c : σ, nx = Led c ∧ μ c = n ∧ AllAt m (ps c) ∧ P c) F (fun p hp => N p (h1.mem p hp)) ⟨c₀, rfl, rfl, h3, h4⟩ ?_ hE
  rintro n m₁ nx h tk F₁ N₁ ⟨c, rfl, hsz, hps, hP⟩
  have F₂ : Fr g L h (chain (ps c) m₁) := by rw [chain_of hps]; exact F₁
  refine wpAny_mono (turn c h tk m₁ hP F₂ N₁) (fun b s₂ p => ?_) fun _ _ x => x
  cases b with
  | false => unfold WhlIf at p; simpa using p
  | true =>
    unfold WhlIf at p
    simp only [if_true] at p ⊢
    have fin : ∀ s₃, WEnd g L Led ps P μ (μ c) { s with heap := h, toks := tk } s₃ → ∃ h' tk m₂ news₂ n', s₃ = { s with heap := h', toks := tk } ∧ Fr g L h' m₂ ∧ News g L h' news₂ ∧ n' < n ∧ ∃ c : σ, news₂ = Led c ∧ μ c = n' ∧ AllAt m₂ (ps c) ∧ P c := by
      rintro s₃ ⟨c', h', tk', m', news', rfl, F', N', hsub, hps', hP', hm⟩
      exact ⟨h', tk', m', Led c', μ c', rfl, F', fun p hp => N' p (hsub.mem p hp), by omega, c', rfl, rfl, hps', hP'⟩
    refine wpAny_mono p (fun f s₃ q => ?_) fun _ _ x => x
    cases f with
    | ret v => exact q
    | brk => exact q
    | next => exact fin _ q
    | cont => exact fin _ q
end
end
section
/-- the statement at a place of the text -/
noncomputable def stAt (i : Nat) : Stmt := (PySem.Challenge.pw_il0142_01.main.body[i]?).getD (.Pass ⟨0, 0, 0, 0⟩)
noncomputable def inClass (st : Stmt) (i : Nat) : Stmt := match st with
  | .ClassDef _ _ _ body _ _ _ _ _ _ _ => (body[i]?).getD (.Pass ⟨0, 0, 0, 0⟩)
  | _ => .Pass ⟨0, 0, 0, 0⟩
/-- a def's function object -/
noncomputable def fnAt (st : Stmt) (qual : Str) (cl : List (Str × Addr)) (pm : Value) (c : Addr) (ct : Value) : Obj := match st with
  | .FunctionDef name args body _ _ _ scope _ _ _ => { cls := .type "function", data := .func { name := name, qualname := qual, params := args, body := .stmts body, scope := scope, globals := 3, closure := cl, defaults := .none, kwdefaults := .none, pyModule := pm, code := .ref c, closureTuple := ct } }
  | _ => default
/-- the written part of the heap -/
noncomputable def K1 : Params → Frag := fun P =>
  (nat_lit 2, { cls := Value.none, data := Data.dict #[{ hash := PyData.keyHash P (Str.ofString "\x69mport.loaded._collections"), key := Value.str (Str.ofString "\x69mport.loaded._collections") 185, val := Value.bool true }, { hash := PyData.keyHash P (Str.ofString "class._frozen_importlib.BuiltinImporter"), key := Value.str (Str.ofString "class._frozen_importlib.BuiltinImporter") 187, val := Value.ref 15 }, { hash := PyData.keyHash P (Str.ofString "watched.\x69mport"), key := Value.str (Str.ofString "watched.\x69mport") 208, val := Value.ref 19 }, { hash := PyData.keyHash P (Str.ofString "class._frozen_importlib.ModuleSpec"), key := Value.str (Str.ofString "class._frozen_importlib.ModuleSpec") 218, val := Value.ref 23 }, { hash := PyData.keyHash P (Str.ofString "sys.modules.booked-epoch"), key := Value.str (Str.ofString "sys.modules.booked-epoch") 247, val := Value.int 3 0 }, { hash := PyData.keyHash P (Str.ofString "sys.modules.landed._collections"), key := Value.str (Str.ofString "sys.modules.landed._collections") 248, val := Value.bool true }, { hash := PyData.keyHash P (Str.ofString "\x69mport.later-laid._collections"), key := Value.str (Str.ofString "\x69mport.later-laid._collections") 263, val := Value.bool true }, { hash := PyData.keyHash P (Str.ofString "watched.library"), key := Value.str (Str.ofString "watched.library") 265, val := Value.ref 28 }, { hash := PyData.keyHash P (Str.ofString "watched.library-objects"), key := Value.str (Str.ofString "watched.library-objects") 0, val := Value.str (Str.ofString "\x0d") 0 }, { hash := PyData.keyHash P (Str.ofString "watched.library-deep._collections"), key := Value.str (Str.ofString "watched.library-deep._collections") 266, val := Value.str (Str.ofString "\x04\x00\x00\x0c\x04\x00\x00\x0c\x04\x00\x00\x03\x04\x00\x00\x0c\x08\x04dict\x02") 0 }, { hash := PyData.keyHash P (Str.ofString "type.__subclasses__.collections.defaultdict.0"), key := Value.str (Str.ofString "type.__subclasses__.collections.defaultdict.0") 325, val := Value.int 65 0 }, { hash := PyData.keyHash P (Str.ofString "type.__subclasses__.collections.defaultdict.n"), key := Value.str (Str.ofString "type.__subclasses__.collections.defaultdict.n") 326, val := Value.int 1 0 }] 12 }) ::
  (nat_lit 3, { cls := Value.type "dict", data := Data.dict #[{ hash := PyData.keyHash P (Str.ofString "__name__"), key := Value.str (Str.ofString "__name__") 165, val := Value.str (Str.ofString "law_il0142_01") 496 }, { hash := PyData.keyHash P (Str.ofString "__doc__"), key := Value.str (Str.ofString "__doc__") 166, val := Value.none }, { hash := PyData.keyHash P (Str.ofString "__package__"), key := Value.str (Str.ofString "__package__") 167, val := Value.none }, { hash := PyData.keyHash P (Str.ofString "__loader__"), key := Value.str (Str.ofString "__loader__") 168, val := Value.builtin "__main__.__loader__#opaque" }, { hash := PyData.keyHash P (Str.ofString "__spec__"), key := Value.str (Str.ofString "__spec__") 169, val := Value.none }, { hash := PyData.keyHash P (Str.ofString "__annotations__"), key := Value.str (Str.ofString "__annotations__") 170, val := Value.ref 6 }, { hash := PyData.keyHash P (Str.ofString "__builtins__"), key := Value.str (Str.ofString "__builtins__") 171, val := Value.ref 4 }, { hash := PyData.keyHash P (Str.ofString "__file__"), key := Value.str (Str.ofString "__file__") 173, val := Value.str (Str.ofString "/claim/cut.py") 172 }, { hash := PyData.keyHash P (Str.ofString "__cached__"), key := Value.str (Str.ofString "__cached__") 174, val := Value.none }, { hash := PyData.keyHash P (Str.ofString "defaultdict"), key := Value.str (Str.ofString "defaultdict") 272, val := Value.type "collections.defaultdict" }, { hash := PyData.keyHash P (Str.ofString "_wall"), key := Value.str (Str.ofString "_wall") 285, val := Value.ref 39 }, { hash := PyData.keyHash P (Str.ofString "FreezableDefaultDict"), key := Value.str (Str.ofString "FreezableDefaultDict") 328, val := Value.ref 65 }, { hash := PyData.keyHash P (Str.ofString "_plain_name"), key := Value.str (Str.ofString "_plain_name") 339, val := Value.ref 76 }, { hash := PyData.keyHash P (Str.ofString "ABCMeta"), key := Value.str (Str.ofString "ABCMeta") 365, val := Value.ref 93 }, { hash := PyData.keyHash P (Str.ofString "_ABCLike"), key := Value.str (Str.ofString "_ABCLike") 408, val := Value.ref 126 }, { hash := PyData.keyHash P (Str.ofString "_abc_plain_meta"), key := Value.str (Str.ofString "_abc_plain_meta") 415, val := Value.ref 135 }, { hash := PyData.keyHash P (Str.ofString "fspath"), key := Value.str (Str.ofString "fspath") 427, val := Value.ref 142 }, { hash := PyData.keyHash P (Str.ofString "_check_arg_types"), key := Value.str (Str.ofString "_check_arg_types") 440, val := Value.ref 149 }, { hash := PyData.keyHash P (Str.ofString "_get_sep"), key := Value.str (Str.ofString "_get_sep") 449, val := Value.ref 156 }, { hash := PyData.keyHash P (Str.ofString "join"), key := Value.str (Str.ofString "join") 460, val := Value.ref 163 }, { hash := PyData.keyHash P (Str.ofString "split"), key := Value.str (Str.ofString "split") 471, val := Value.ref 170 }, { hash := PyData.keyHash P (Str.ofString "splitroot"), key := Value.str (Str.ofString "splitroot") 480, val := Value.ref 177 }, { hash := PyData.keyHash P (Str.ofString "normpath"), key := Value.str (Str.ofString "normpath") 495, val := Value.ref 184 }, { hash := PyData.keyHash P (Str.ofString "_law_steps"), key := Value.str (Str.ofString "_law_steps") 507, val := Value.ref 191 }, { hash := PyData.keyHash P (Str.ofString "_law_numbering"), key := Value.str (Str.ofString "_law_numbering") 514, val := Value.ref 198 }, { hash := PyData.keyHash P (Str.ofString "_law_number"), key := Value.str (Str.ofString "_law_number") 527, val := Value.ref 205 }, { hash := PyData.keyHash P (Str.ofString "_law_back"), key := Value.str (Str.ofString "_law_back") 538, val := Value.ref 212 }, { hash := PyData.keyHash P (Str.ofString "_law_names"), key := Value.str (Str.ofString "_law_names") 547, val := Value.ref 219 }, { hash := PyData.keyHash P (Str.ofString "_law_due"), key := Value.str (Str.ofString "_law_due") 555, val := Value.ref 226 }, { hash := PyData.keyHash P (Str.ofString "law"), key := Value.str (Str.ofString "law") 561, val := Value.ref 231 }] 30 }) ::
  (nat_lit 40, { cls := Value.type "tuple", data := Data.seq #[Value.type "collections.defaultdict"] }) ::
  (nat_lit 43, { cls := Value.type "cell", data := Data.cell (some (Value.ref 65)) }) ::
  (nat_lit 48, { cls := Value.type "tuple", data := Data.seq #[Value.ref 43] }) ::
  (nat_lit 54, { cls := Value.type "code", data := Data.fields #[Value.str (Str.ofString "__missing__") 300, Value.str (Str.ofString "FreezableDefaultDict.__missing__") 301, Value.str (Str.ofString "/claim/cut.py") 302, Value.int 8 0, Value.int 2 0, Value.int 0 0, Value.int 0 0, Value.int 3 0, Value.ref 49, Value.bool true, Value.int 273 0, Value.ref 50, Value.none, Value.ref 51, Value.ref 52, Value.ref 53, Value.int 306 0, Value.int 8 0, Value.str (Str.ofString "/claim/cut.py") 307] }) ::
  (nat_lit 55, fnAt (inClass (stAt 3) 0) (Str.ofString "FreezableDefaultDict.__missing__") [(Str.ofString "__class__", 43)] (Value.str (Str.ofString "cpy313.importlib.metadata._collections") 286) 54 (Value.ref 48)) ::
  (nat_lit 61, { cls := Value.type "code", data := Data.fields #[Value.str (Str.ofString "freeze") 309, Value.str (Str.ofString "FreezableDefaultDict.freeze") 310, Value.str (Str.ofString "/claim/cut.py") 311, Value.int 11 0, Value.int 1 0, Value.int 0 0, Value.int 0 0, Value.int 3 0, Value.ref 56, Value.bool true, Value.int 273 0, Value.ref 57, Value.none, Value.ref 58, Value.ref 59, Value.ref 60, Value.int 314 0, Value.int 11 0, Value.str (Str.ofString "/claim/cut.py") 315] }) ::
  (nat_lit 62, fnAt (inClass (stAt 3) 1) (Str.ofString "FreezableDefaultDict.freeze") [] (Value.str (Str.ofString "cpy313.importlib.metadata._collections") 286) 61 .none) ::
  (nat_lit 63, { cls := Value.type "tuple", data := Data.seq #[Value.str (Str.ofString "_frozen") 317] }) ::
  (nat_lit 64, { cls := Value.type "dict", data := Data.dict #[{ hash := PyData.keyHash P (Str.ofString "__module__"), key := Value.str (Str.ofString "__module__") 295, val := Value.str (Str.ofString "cpy313.importlib.metadata._collections") 286 }, { hash := PyData.keyHash P (Str.ofString "__firstlineno__"), key := Value.str (Str.ofString "__firstlineno__") 299, val := Value.int 6 298 }, { hash := PyData.keyHash P (Str.ofString "__missing__"), key := Value.str (Str.ofString "__missing__") 308, val := Value.ref 55 }, { hash := PyData.keyHash P (Str.ofString "freeze"), key := Value.str (Str.ofString "freeze") 316, val := Value.ref 62 }, { hash := PyData.keyHash P (Str.ofString "__static_attributes__"), key := Value.str (Str.ofString "__static_attributes__") 318, val := Value.ref 63 }, { hash := PyData.keyHash P (Str.ofString "__dict__"), key := Value.str (Str.ofString "__dict__") 321, val := Value.ref 66 }, { hash := PyData.keyHash P (Str.ofString "__weakref__"), key := Value.str (Str.ofString "__weakref__") 323, val := Value.ref 67 }, { hash := PyData.keyHash P (Str.ofString "__doc__"), key := Value.str (Str.ofString "__doc__") 324, val := Value.none }] 5 }) ::
  (nat_lit 65, { cls := Value.type "type", data := Data.cls { name := Str.ofString "FreezableDefaultDict", bases := [Value.type "collections.defaultdict"], mro := [Value.ref 65, Value.type "collections.defaultdict", Value.type "dict", Value.type "object"], ns := 64, qualname := Str.ofString "FreezableDefaultDict", slotNames := [Str.ofString ""] }, slots := #[some (Value.ref 40), none, some (Value.str (Str.ofString "FreezableDefaultDict") 288), some (Value.str (Str.ofString "FreezableDefaultDict") 296), some (Value.builtin "dict.__new__"), some (Value.bool true)] }) ::
  (nat_lit 66, { cls := Value.type "getset_descriptor", data := Data.fields #[Value.str (Str.ofString "__dict__") 320, Value.ref 65, Value.builtin "function.__dict__", Value.builtin "function.__dict__#set"] }) ::
  (nat_lit 67, { cls := Value.type "getset_descriptor", data := Data.fields #[Value.str (Str.ofString "__weakref__") 322, Value.ref 65, Value.builtin "ExceptionGroup.__weakref__", Value.none] }) ::
  (nat_lit 141, { cls := Value.type "code", data := Data.fields #[Value.str (Str.ofString "fspath") 418, Value.str (Str.ofString "fspath") 419, Value.str (Str.ofString "/claim/cut.py") 420, Value.int 44 0, Value.int 1 0, Value.int 0 0, Value.int 0 0, Value.int 3 0, Value.ref 136, Value.bool true, Value.int 273 0, Value.ref 137, Value.none, Value.ref 138, Value.ref 139, Value.ref 140, Value.int 425 0, Value.int 44 0, Value.str (Str.ofString "/claim/cut.py") 426] }) ::
  (nat_lit 142, fnAt (stAt 12) (Str.ofString "fspath") [] (Value.str (Str.ofString "os") 416) 141 .none) ::
  (nat_lit 148, { cls := Value.type "code", data := Data.fields #[Value.str (Str.ofString "_check_arg_types") 430, Value.str (Str.ofString "_check_arg_types") 431, Value.str (Str.ofString "/claim/cut.py") 432, Value.int 61 0, Value.int 1 0, Value.int 0 0, Value.int 0 0, Value.int 7 0, Value.ref 143, Value.bool true, Value.int 273 0, Value.ref 144, Value.none, Value.ref 145, Value.ref 146, Value.ref 147, Value.int 438 0, Value.int 61 0, Value.str (Str.ofString "/claim/cut.py") 439] }) ::
  (nat_lit 149, fnAt (stAt 14) (Str.ofString "_check_arg_types") [] (Value.str (Str.ofString "cpy313.genericpath") 428) 148 .none) ::
  (nat_lit 155, { cls := Value.type "code", data := Data.fields #[Value.str (Str.ofString "_get_sep") 443, Value.str (Str.ofString "_get_sep") 444, Value.str (Str.ofString "/claim/cut.py") 445, Value.int 73 0, Value.int 1 0, Value.int 0 0, Value.int 0 0, Value.int 3 0, Value.ref 150, Value.bool true, Value.int 273 0, Value.ref 151, Value.none, Value.ref 152, Value.ref 153, Value.ref 154, Value.int 447 0, Value.int 73 0, Value.str (Str.ofString "/claim/cut.py") 448] }) ::
  (nat_lit 156, fnAt (stAt 16) (Str.ofString "_get_sep") [] (Value.str (Str.ofString "cpy313.posixpath") 441) 155 .none) ::
  (nat_lit 162, { cls := Value.type "code", data := Data.fields #[Value.str (Str.ofString "join") 450, Value.str (Str.ofString "join") 451, Value.str (Str.ofString "/claim/cut.py") 452, Value.int 78 0, Value.int 1 0, Value.int 0 0, Value.int 0 0, Value.int 7 0, Value.ref 157, Value.bool true, Value.int 273 0, Value.ref 158, Value.none, Value.ref 159, Value.ref 160, Value.ref 161, Value.int 458 0, Value.int 78 0, Value.str (Str.ofString "/claim/cut.py") 459] }) ::
  (nat_lit 163, fnAt (stAt 17) (Str.ofString "join") [] (Value.str (Str.ofString "cpy313.posixpath") 441) 162 .none) ::
  (nat_lit 169, { cls := Value.type "code", data := Data.fields #[Value.str (Str.ofString "split") 461, Value.str (Str.ofString "split") 462, Value.str (Str.ofString "/claim/cut.py") 463, Value.int 95 0, Value.int 1 0, Value.int 0 0, Value.int 0 0, Value.int 3 0, Value.ref 164, Value.bool true, Value.int 273 0, Value.ref 165, Value.none, Value.ref 166, Value.ref 167, Value.ref 168, Value.int 469 0, Value.int 95 0, Value.str (Str.ofString "/claim/cut.py") 470] }) ::
  (nat_lit 170, fnAt (stAt 18) (Str.ofString "split") [] (Value.str (Str.ofString "cpy313.posixpath") 441) 169 .none) ::
  (nat_lit 176, { cls := Value.type "code", data := Data.fields #[Value.str (Str.ofString "splitroot") 472, Value.str (Str.ofString "splitroot") 473, Value.str (Str.ofString "/claim/cut.py") 474, Value.int 103 0, Value.int 1 0, Value.int 0 0, Value.int 0 0, Value.int 3 0, Value.ref 171, Value.bool true, Value.int 273 0, Value.ref 172, Value.none, Value.ref 173, Value.ref 174, Value.ref 175, Value.int 478 0, Value.int 103 0, Value.str (Str.ofString "/claim/cut.py") 479] }) ::
  (nat_lit 177, fnAt (stAt 19) (Str.ofString "splitroot") [] (Value.str (Str.ofString "cpy313.posixpath") 441) 176 .none) ::
  (nat_lit 183, { cls := Value.type "code", data := Data.fields #[Value.str (Str.ofString "normpath") 481, Value.str (Str.ofString "normpath") 482, Value.str (Str.ofString "/claim/cut.py") 483, Value.int 117 0, Value.int 1 0, Value.int 0 0, Value.int 0 0, Value.int 3 0, Value.ref 178, Value.bool true, Value.int 273 0, Value.ref 179, Value.none, Value.ref 180, Value.ref 181, Value.ref 182, Value.int 493 0, Value.int 117 0, Value.str (Str.ofString "/claim/cut.py") 494] }) ::
  (nat_lit 184, fnAt (stAt 20) (Str.ofString "normpath") [] (Value.str (Str.ofString "cpy313.posixpath") 441) 183 .none) ::
  (nat_lit 190, { cls := Value.type "code", data := Data.fields #[Value.str (Str.ofString "_law_steps") 498, Value.str (Str.ofString "_law_steps") 499, Value.str (Str.ofString "/claim/cut.py") 500, Value.int 143 0, Value.int 1 0, Value.int 0 0, Value.int 0 0, Value.int 3 0, Value.ref 185, Value.bool true, Value.int 273 0, Value.ref 186, Value.none, Value.ref 187, Value.ref 188, Value.ref 189, Value.int 505 0, Value.int 143 0, Value.str (Str.ofString "/claim/cut.py") 506] }) ::
  (nat_lit 191, fnAt (stAt 22) (Str.ofString "_law_steps") [] (Value.str (Str.ofString "law_il0142_01") 496) 190 .none) ::
  (nat_lit 197, { cls := Value.type "code", data := Data.fields #[Value.str (Str.ofString "_law_numbering") 508, Value.str (Str.ofString "_law_numbering") 509, Value.str (Str.ofString "/claim/cut.py") 510, Value.int 150 0, Value.int 0 0, Value.int 0 0, Value.int 0 0, Value.int 3 0, Value.ref 192, Value.bool true, Value.int 273 0, Value.ref 193, Value.none, Value.ref 194, Value.ref 195, Value.ref 196, Value.int 512 0, Value.int 150 0, Value.str (Str.ofString "/claim/cut.py") 513] }) ::
  (nat_lit 198, fnAt (stAt 23) (Str.ofString "_law_numbering") [] (Value.str (Str.ofString "law_il0142_01") 496) 197 .none) ::
  (nat_lit 204, { cls := Value.type "code", data := Data.fields #[Value.str (Str.ofString "_law_number") 515, Value.str (Str.ofString "_law_number") 516, Value.str (Str.ofString "/claim/cut.py") 517, Value.int 153 0, Value.int 2 0, Value.int 0 0, Value.int 0 0, Value.int 3 0, Value.ref 199, Value.bool true, Value.int 273 0, Value.ref 200, Value.none, Value.ref 201, Value.ref 202, Value.ref 203, Value.int 525 0, Value.int 153 0, Value.str (Str.ofString "/claim/cut.py") 526] }) ::
  (nat_lit 205, fnAt (stAt 24) (Str.ofString "_law_number") [] (Value.str (Str.ofString "law_il0142_01") 496) 204 .none) ::
  (nat_lit 211, { cls := Value.type "code", data := Data.fields #[Value.str (Str.ofString "_law_back") 528, Value.str (Str.ofString "_law_back") 529, Value.str (Str.ofString "/claim/cut.py") 530, Value.int 163 0, Value.int 2 0, Value.int 0 0, Value.int 0 0, Value.int 3 0, Value.ref 206, Value.bool true, Value.int 273 0, Value.ref 207, Value.none, Value.ref 208, Value.ref 209, Value.ref 210, Value.int 536 0, Value.int 163 0, Value.str (Str.ofString "/claim/cut.py") 537] }) ::
  (nat_lit 212, fnAt (stAt 25) (Str.ofString "_law_back") [] (Value.str (Str.ofString "law_il0142_01") 496) 211 .none) ::
  (nat_lit 218, { cls := Value.type "code", data := Data.fields #[Value.str (Str.ofString "_law_names") 539, Value.str (Str.ofString "_law_names") 540, Value.str (Str.ofString "/claim/cut.py") 541, Value.int 170 0, Value.int 2 0, Value.int 0 0, Value.int 0 0, Value.int 3 0, Value.ref 213, Value.bool true, Value.int 273 0, Value.ref 214, Value.none, Value.ref 215, Value.ref 216, Value.ref 217, Value.int 545 0, Value.int 170 0, Value.str (Str.ofString "/claim/cut.py") 546] }) ::
  (nat_lit 219, fnAt (stAt 26) (Str.ofString "_law_names") [] (Value.str (Str.ofString "law_il0142_01") 496) 218 .none) ::
  (nat_lit 225, { cls := Value.type "code", data := Data.fields #[Value.str (Str.ofString "_law_due") 548, Value.str (Str.ofString "_law_due") 549, Value.str (Str.ofString "/claim/cut.py") 550, Value.int 179 0, Value.int 2 0, Value.int 0 0, Value.int 0 0, Value.int 3 0, Value.ref 220, Value.bool true, Value.int 273 0, Value.ref 221, Value.none, Value.ref 222, Value.ref 223, Value.ref 224, Value.int 553 0, Value.int 179 0, Value.str (Str.ofString "/claim/cut.py") 554] }) ::
  (nat_lit 226, fnAt (stAt 27) (Str.ofString "_law_due") [] (Value.str (Str.ofString "law_il0142_01") 496) 225 .none) ::
  (nat_lit 230, { cls := Value.type "code", data := Data.fields #[Value.str (Str.ofString "law") 556, Value.str (Str.ofString "law") 557, Value.str (Str.ofString "/claim/cut.py") 558, Value.int 185 0, Value.int 1 0, Value.int 0 0, Value.int 0 0, Value.int 3 0, Value.ref 227, Value.bool true, Value.int 273 0, Value.ref 228, Value.none, Value.none, Value.none, Value.ref 229, Value.int 559 0, Value.int 185 0, Value.str (Str.ofString "/claim/cut.py") 560] }) ::
  (nat_lit 231, fnAt (stAt 28) (Str.ofString "law") [] (Value.str (Str.ofString "law_il0142_01") 496) 230 .none) :: []
noncomputable def isAsg : Stmt → Bool
  | .Assign .. => true
  | _ => false
/-- the text without its assignments -/
noncomputable def view1 : Program := { PySem.Challenge.pw_il0142_01 with main := { PySem.Challenge.pw_il0142_01.main with body := PySem.Challenge.pw_il0142_01.main.body.filter fun st => !isAsg st } }
noncomputable abbrev as1 : List Addr := 2 :: 3 :: 40 :: 43 :: 48 :: 54 :: 55 :: 61 :: 62 :: 63 :: 64 :: 65 :: 66 :: 67 :: 141 :: 142 :: 148 :: 149 :: 155 :: 156 :: 162 :: 163 :: 169 :: 170 :: 176 :: 177 :: 183 :: 184 :: 190 :: 191 :: 197 :: 198 :: 204 :: 205 :: 211 :: 212 :: 218 :: 219 :: 225 :: 226 :: 230 :: 231 :: []
noncomputable abbrev r1 : RowW := PySem.Challenge.rw_il0142_01.row.toRowW
end
section
set_option maxHeartbeats 0
theorem ws : PySem.Challenge.rw_il0142_01.wellSaid = true := by decide +kernel
end
section
set_option maxHeartbeats 0
theorem left1 : LeftO r1.prog view1 [] (fun s => xlAt view1 [] s && recOk (RowW.records r1) s) (Hook.obs (kmHook K1 as1 (fun _ => rfl) [57, 193])) (Hook.val (kmHook K1 as1 (fun _ => rfl) [57, 193])) 2938 := by
  intro w
  kernel_rfl!
end
local macro_rules | `(tactic| walk_at "my keep") => `(tactic| ((rename Keeps _ _ => kp'); (have F' := Fr.keeps (by assumption) kp'); (have N' := News.keeps (by assumption) kp'); clear kp'; (try k_sweep)))
local macro_rules | `(tactic| walk_at "my enter") => `(tactic| (
  (case X => assumption); (case T => assumption); (case ho => k_is); (case hcd => k_is); (case hroom => first | exact roomE (by assumption) | (dsimp only [Ar, recursionLimit]; omega));
  (case hbind => exact BindsTo.of_eq rfl); (case hloc => exact locs rfl); (case hco => exact rfl); (case hgen => exact rfl); (case hk => exact rfl); (case hcell => decide);
  intro L' h' F' N'; (try dsimp only); k_fold))
local macro_rules | `(tactic| walk_at "my room") => `(tactic| ((try dsimp only [Ar, Around.deeper, Around.in1]); first | with_reducible exact room1 (by assumption) (by decide) | with_reducible exact room0 (by assumption) (by decide) | omega))
local macro_rules | `(tactic| walk_at "my top") => `(tactic| first | exact TopRead.keeps (by assumption) (Fr.keep (by assumption)) | assumption)
local macro_rules | `(tactic| walk_at "my pre") => `(tactic| (
  (case X => k_in); (case T => walk_at "my top"); (case d => walk_at "my room"); (case u => walk_at "my room")))
local macro_rules | `(tactic| walk_at "truthy str") => `(tactic| (
  (with_reducible show wpAny _ _ (PySem.truthy (Value.str _ _)) _ _ _); (refine P.truthy_str (by first | omega | (rw [PySem.Str.length_append]; omega)) ?_)))
local macro_rules | `(tactic| walk_at "call builtin:issubclass") => `(tactic| ((refine' issub_str ?h1 ?_); (case h1 => exact News.get (by assumption) (by k_mem)); intro tk'))
local macro_rules | `(tactic| walk_at "my size") => `(tactic| first | (rw [sizeLine_eq]; (try simp only [List.size_toArray, List.length_append, List.length_cons, List.length_nil] at *); omega) | size_fits)
local macro_rules | `(tactic| walk_at "call builtin:str.split") => `(tactic| (
  (with_reducible show wpAny _ _ (PySem.call (Value.builtin "str.split") [Value.str _ _, Value.str _ _]) _ _ _);
  (refine KSpl.split1 (by k_asm) (by k_asm) (by decide) ?_ (by walk_at "my size")); (intro D' l' h' k' e' a' F' N' l1); (try k_lt l1)))
local macro_rules | `(tactic| walk_at "truthy ref") => `(tactic| (
  (with_reducible show wpAny _ _ (PySem.truthy (Value.ref _)) _ _ _);
  k_dflt (first
  | (refine ltruthy (vs := []) (b := false) (by assumption) (by k_mem) rfl (Nat.zero_le _) ?_; intro _)
  | (refine ltruthy (vs := _ ++ [_]) (b := true) (by assumption) (by k_mem) (by simp) (by (simp only [List.length_append, List.length_cons, List.length_nil] at *); omega) ?_; intro _))))
local macro_rules | `(tactic| walk_at "getItem ref int") => `(tactic| (
  (with_reducible show wpAny _ _ (PySem.getItem (Value.ref _) (Value.int (-1) _)) _ _ _);
  (refine lgetneg (by assumption) (by k_mem) ?_)))
local macro_rules | `(tactic| walk_at "call builtin:list.pop") => `(tactic| (
  (with_reducible show wpAny _ _ (PySem.call (Value.builtin "list.pop") [Value.ref _]) _ _ _);
  (refine' lpop ?F ?N ?U ?z ?_); (case F => assumption); (case N => assumption); (case U => k_upd); (case z => walk_at "my size"); intro h' F' N'; (try k_sweep)))
local macro_rules | `(tactic| walk_at "call builtin:list.append") => `(tactic| (
  (with_reducible show wpAny _ _ (PySem.call (Value.builtin "list.append") [Value.ref _, _]) _ _ _);
  (refine' lappend ?F ?N ?U ?z ?_); (case F => assumption); (case N => assumption); (case U => k_upd); (case z => walk_at "my size"); intro h' F' N'; (try k_sweep)))
local macro_rules | `(tactic| walk_at "call builtin:str.join") => `(tactic| (
  (with_reducible show wpAny _ _ (PySem.call (Value.builtin "str.join") [Value.str _ _, Value.ref _]) _ _ _);
  (refine ljoin (by assumption) (by k_mem) (by assumption) (by first | assumption | omega) ?_); intro _ _))
local macro_rules | `(tactic| walk_at "subscriptTail Name UnaryOp ref int") => `(tactic| (
  (with_reducible show wpAny _ _ (subscriptTail _ _ (Value.ref _) (Value.int _ _)) _ _ _);
  (k_dflt (refine item_strs_negR (by is_list) (by assumption) (by first | decide | omega) (by first | idx_side | (simp; omega)) (by first | decide | omega) ?_)); intro _))
local macro_rules | `(tactic| k_ne) => `(tactic| first
  | (refine neN ?_; (try dsimp only); first | assumption | (refine Ne.symm ?_; assumption) | omega (config := { splitDisjunctions := false }))
  | (refine ne_cls (by assumption) (by k_mem) (by k_mem) ?_; (try dsimp only); simp; done)
  | (refine neN ?_; (try dsimp only); (repeat (rename (_ ∧ _) => hkn'; obtain ⟨_, _⟩ := hkn')); first | assumption | (refine Ne.symm ?_; assumption) | omega (config := { splitDisjunctions := false }))
  | (refine neN ?_; (try dsimp only); omega))
section

theorem fspath_ct : ∀ {w : World} {dp un : Nat} {fr : Option (List Env)} {gd : Option (List Code)} {s : Shared} {Q E : Value → Shared → Prop} {x : Str} {t : Tok}
   {p loose mg mb} 
   (X : (K1 w.params).In s.heap) (T : TopRead p loose mg mb s.heap) (hdp : dp + 5 < 1000) (hu : un + 40 < 9900)
   (hQ : ∀ h' tk, Keeps s.heap h' → Q (.str x t) { s with heap := h', toks := tk })
   , wpAny (model PySem.Challenge.rw_il0142_01.row.prog w) (Ar dp un fr gd) (call (.ref 142) [.str x t]) Q E s := by
  k_fill
  intro w dp un fr gd s Q E x t p loose mg mb X T hdp hu hQ
  refine' enter [(Str.ofString "path", .str x t)] ?X ?T ?ho ?hcd ?hroom ?hbind ?hloc ?_ ?hco ?hgen ?hk ?hcell
  walk_at "my enter"
  k_steps
  all_goals (exact hQ _ _ (Fr.keep (by assumption)))

theorem get_sep_ct : ∀ {w : World} {dp un : Nat} {fr : Option (List Env)} {gd : Option (List Code)} {s : Shared} {Q E : Value → Shared → Prop} {x : Str} {t : Tok}
   {p loose mg mb} 
   (X : (K1 w.params).In s.heap) (T : TopRead p loose mg mb s.heap) (hdp : dp + 5 < 1000) (hu : un + 40 < 9900)
   (hQ : ∀ t h' tk, Keeps s.heap h' → Q (.str (Str.ofString "/") t) { s with heap := h', toks := tk })
   , wpAny (model PySem.Challenge.rw_il0142_01.row.prog w) (Ar dp un fr gd) (call (.ref 156) [.str x t]) Q E s := by
  k_fill
  intro w dp un fr gd s Q E x t p loose mg mb X T hdp hu hQ
  refine' enter [(Str.ofString "path", .str x t)] ?X ?T ?ho ?hcd ?hroom ?hbind ?hloc ?_ ?hco ?hgen ?hk ?hcell
  walk_at "my enter"
  k_steps
  all_goals (exact hQ _ _ _ (Fr.keep (by assumption)))
end
section
local macro_rules | `(tactic| walk_at "call ref") => `(tactic| (
  (with_reducible show wpAny _ _ (PySem.call (Value.ref 142) [Value.str _ _]) _ _ _);
  (k_dflt (refine' fspath_ct ?X ?T ?d ?u ?_)); walk_at "my pre";
  intro h' tk' kp'; walk_at "my keep"))
local macro_rules | `(tactic| walk_at "call ref") => `(tactic| (
  (with_reducible show wpAny _ _ (PySem.call (Value.ref 156) [Value.str _ _]) _ _ _);
  (k_dflt (refine' get_sep_ct ?X ?T ?d ?u ?_)); walk_at "my pre";
  intro t' h' tk' kp'; walk_at "my keep"))
theorem split_ct : ∀ {w : World} {dp un : Nat} {fr : Option (List Env)} {gd : Option (List Code)} {s : Shared} {Q E : Value → Shared → Prop} {x : Str} {t : Tok}
   {p loose mg mb} 
   (X : (K1 w.params).In s.heap) (T : TopRead p loose mg mb s.heap) (hdp : dp + 8 < 1000) (hu : un + 60 < 9900)
   (hx : x.length ≤ 1000000)
   (hQ : ∀ a t1 t2 h' tk, Keeps s.heap h' → s.heap.get? a = none → h'.get? a = some (tupOf [.str (splitS x).1 t1, .str (splitS x).2 t2]) → Q (.ref a) { s with heap := h', toks := tk })
   , wpAny (model PySem.Challenge.rw_il0142_01.row.prog w) (Ar dp un fr gd) (call (.ref 170) [.str x t]) Q E s := by
  k_fill
  intro w dp un fr gd s Q E x t p loose mg mb X T hdp hu hx hQ
  refine' enter [(Str.ofString "p", .str x t)] ?X ?T ?ho ?hcd ?hroom ?hbind ?hloc ?_ ?hco ?hgen ?hk ?hcell
  walk_at "my enter"
  k_steps
  · have e : splitS x = (Txt.rstripChars (Txt.slice x none (some (Txt.rfind x (Str.ofString "/") + 1))) (Str.ofString "/"), Txt.slice x (some (Txt.rfind x (Str.ofString "/") + 1)) none) := by
      unfold splitS; dsimp only; rw [if_neg (by assumption), if_pos (by assumption)]
    rw [e] at hQ
    exact hQ _ _ _ _ _ (Fr.keep (by assumption)) (News.fresh (by assumption) (.head _)) (News.get (by assumption) (.head _))
  · have e : splitS x = (Txt.slice x none (some (Txt.rfind x (Str.ofString "/") + 1)), Txt.slice x (some (Txt.rfind x (Str.ofString "/") + 1)) none) := by
      unfold splitS; dsimp only; rw [if_neg (by assumption), if_neg (by rw [Bool.not_eq_true]; assumption)]
    rw [e] at hQ
    exact hQ _ _ _ _ _ (Fr.keep (by assumption)) (News.fresh (by assumption) (.head _)) (News.get (by assumption) (.head _))
  · have e : splitS x = (Txt.slice x none (some (Txt.rfind x (Str.ofString "/") + 1)), Txt.slice x (some (Txt.rfind x (Str.ofString "/") + 1)) none) := by
      unfold splitS; dsimp only; rw [if_pos (by assumption)]
    rw [e] at hQ
    exact hQ _ _ _ _ _ (Fr.keep (by assumption)) (News.fresh (by assumption) (.head _)) (News.get (by assumption) (.head _))
theorem splitroot_ct : ∀ {w : World} {dp un : Nat} {fr : Option (List Env)} {gd : Option (List Code)} {s : Shared} {Q E : Value → Shared → Prop} {x : Str} {t : Tok}
   {p loose mg mb} 
   (X : (K1 w.params).In s.heap) (T : TopRead p loose mg mb s.heap) (hdp : dp + 8 < 1000) (hu : un + 60 < 9900)
   (hx : x.length ≤ 1000000)
   (hQ : ∀ a t0 t1 t2 h' tk, Keeps s.heap h' → s.heap.get? a = none → h'.get? a = some (tupOf [.str (Str.ofString "") t0, .str (rootS x).1 t1, .str (rootS x).2 t2]) → Q (.ref a) { s with heap := h', toks := tk })
   , wpAny (model PySem.Challenge.rw_il0142_01.row.prog w) (Ar dp un fr gd) (call (.ref 177) [.str x t]) Q E s := by
  k_fill
  intro w dp un fr gd s Q E x t p loose mg mb X T hdp hu hx hQ
  refine' enter [(Str.ofString "p", .str x t)] ?X ?T ?ho ?hcd ?hroom ?hbind ?hloc ?_ ?hco ?hgen ?hk ?hcell
  walk_at "my enter"
  k_steps
  all_goals (
    have e : rootS x = rootS x := rfl
    conv at e => rhs; unfold rootS
    first
      | rw [if_pos (by assumption)] at e
      | rw [if_neg (by simp only [Bool.not_eq_true]; assumption), if_pos (.inl (by assumption))] at e
      | rw [if_neg (by simp only [Bool.not_eq_true]; assumption), if_pos (.inr (by assumption))] at e
      | rw [if_neg (by simp only [Bool.not_eq_true]; assumption), if_neg (by simp only [Bool.not_eq_true, not_or]; exact ⟨by assumption, by assumption⟩)] at e
    rw [e] at hQ
    exact hQ _ _ _ _ _ _ (Fr.keep (by assumption)) (News.fresh (by assumption) (.head _)) (News.get (by assumption) (.head _)))
end
local macro_rules | `(tactic| walk_at "my add1") => `(tactic| ((rename Keeps _ _ => kp'); (rename Heap.get? _ _ = none => fr'); (rename Heap.get? _ _ = some _ => ob'); (rename StrsAre _ _ => hu'); (have F' := Fr.keeps (by assumption) kp'); (have ne' := news_ne fr' (by assumption)); (try simp only [AllNe, and_true] at ne'); (have N' := news_add kp' fr' ob' (by assumption) (by assumption)); (have hl' := strsAre_len hu'); (try simp only [List.length_map] at hl'); clear kp' ob'; (try k_sweep)))
local macro_rules | `(tactic| walk_at "my add3") => `(tactic| ((rename Keeps _ _ => kp'); (rename Heap.get? _ _ = none => fr'); (rename Heap.get? _ _ = some _ => ob'); (have F' := Fr.keeps (by assumption) kp'); (have ne' := news_ne fr' (by assumption)); (try simp only [AllNe, and_true] at ne'); (have N' := news_add kp' fr' ob' (by assumption) (by assumption)); clear kp' ob'; (try k_sweep)))
local macro_rules | `(tactic| walk_at "my add4") => `(tactic| ((rename Keeps _ _ => kp'); (rename Heap.get? _ _ = none => fr'); (rename Heap.get? _ _ = some _ => ob'); (have F' := Fr.keeps (by assumption) kp'); (have N' := news_add kp' fr' ob' (by assumption) (by assumption)); clear kp'; (try k_sweep)))
section
local macro_rules | `(tactic| walk_at "call ref") => `(tactic| (
  (with_reducible show wpAny _ _ (PySem.call (Value.ref 142) [Value.str _ _]) _ _ _);
  (k_dflt (refine' fspath_ct ?X ?T ?d ?u ?_)); walk_at "my pre";
  intro h' tk' kp'; walk_at "my keep"))
local macro_rules | `(tactic| walk_at "call ref") => `(tactic| (
  (with_reducible show wpAny _ _ (PySem.call (Value.ref 156) [Value.str _ _]) _ _ _);
  (k_dflt (refine' get_sep_ct ?X ?T ?d ?u ?_)); walk_at "my pre";
  intro t' h' tk' kp'; walk_at "my keep"))
local macro_rules | `(tactic| walk_at "call ref") => `(tactic| (
  (with_reducible show wpAny _ _ (PySem.call (Value.ref 177) [Value.str _ _]) _ _ _);
  (k_dflt (refine' splitroot_ct ?X ?T ?d ?u ?x ?_)); (case x => (try rw [Str.length_ofString] at *); omega); walk_at "my pre";
  intro a' t0' t1' t2' h' tk' kp' fr' ob'; walk_at "my add4"))
theorem normpath_ct : ∀ {w : World} {dp un : Nat} {fr : Option (List Env)} {gd : Option (List Code)} {s : Shared} {Q E : Value → Shared → Prop} {x : Str} {t : Tok}
   {p loose mg mb} 
   (X : (K1 w.params).In s.heap) (T : TopRead p loose mg mb s.heap) (hdp : dp + 12 < 1000) (hu : un + 90 < 9900)
   (hx : x.length ≤ 1000) (hx1 : x.length ≠ 0) (hr : (rootS x).1.length ≠ 0)
   (hQ : ∀ t h' tk, Keeps s.heap h' → Q (.str (normS x) t) { s with heap := h', toks := tk })
   , wpAny (model PySem.Challenge.rw_il0142_01.row.prog w) (Ar dp un fr gd) (call (.ref 184) [.str x t]) Q E s := by
  k_fill
  intro w dp un fr gd s Q E x t p loose mg mb X T hdp hu hx hx1 hr hQ
  have hrl := rootS_len x
  have hsc := split_count (rootS x).2
  refine' enter [(Str.ofString "path", .str x t)] ?X ?T ?ho ?hcd ?hroom ?hbind ?hloc ?_ ?hco ?hgen ?hk ?hcell
  walk_at "my enter"
  k_steps
  all_goals (try (exfalso; omega))
  rename_i D l h1 k1 he ha l1 h2 NC h3 l2 h4 lF N
  rw [he] at ha
  refine for_list (σ := (List Value × Nat) × Tok × Tok × Tok × Tok) (fun c => [(D, W.listOf (strValues l).toArray 0), (NC, W.listOf c.1.1.toArray c.1.2)])
    (fun c => [(Str.ofString "new_comps", .ref NC), (Str.ofString "sep", .str (Str.ofString "/") c.2.1), (Str.ofString "dot", .str (Str.ofString ".") c.2.2.1), (Str.ofString "dotdot", .str (Str.ofString "..") c.2.2.2.1), (Str.ofString "initial_slashes", .str (rootS x).1 c.2.2.2.2)])
    (fun i c => StrsAre c.1.1 (((Txt.split (rootS x).2 (Str.ofString "/")).take i).foldl normStep []))
    (([], 0), _, _, _, _) rfl (.inl fun _ => .head _) (by assumption) (by assumption) ⟨.tail _ (.head _), .head _, trivial⟩ ⟨by simp, by simp, trivial⟩ ⟨rfl, rfl, rfl, rfl, rfl, trivial⟩ .nil ?_ ?_
  · intro i v c h tk I it u hv hP F' N' hcl hne
    obtain ⟨y, ty, rfl, hy⟩ := strsAre_get ha hv
    obtain ⟨⟨cs, nn⟩, t1, t2, t3, t4⟩ := c
    have hy1 : y.length ≤ (rootS x).2.length := part_short (List.mem_of_getElem? hy)
    have hy2 : i < (Txt.split (rootS x).2 (Str.ofString "/")).length := (List.getElem?_eq_some_iff.mp hy).1
    have hc1 := foldNorm_len ((Txt.split (rootS x).2 (Str.ofString "/")).take i) []
    have hc2 := strsAre_len hP
    have hc3 : cs.length ≤ 1001 := by
      rw [List.length_take] at hc1
      dsimp only at hc2
      simp only [List.length_nil] at hc1; omega
    clear hc1 hc2
    dsimp only [chain] at F' N' hP
    simp only [AllNe] at hne
    have hst := fun b => (take_foldl normStep _ b hy)
    rcases lsnoc cs with rfl | ⟨cs', v', rfl⟩
    · have hP0 : ((Txt.split (rootS x).2 (Str.ofString "/")).take i).foldl normStep [] = [] := by cases e : ((Txt.split (rootS x).2 (Str.ofString "/")).take i).foldl normStep [] with
        | nil => rfl
        | cons a r => rw [e] at hP; cases hP
      k_steps
      all_goals (
        refine TEnd.intro ((_, _), _, _, _, _) (by assumption) (by assumption) ⟨by k_mem, by k_mem, trivial⟩ (by k_mem) ⟨by simp, by simp, trivial⟩ ⟨rfl, rfl, rfl, rfl, rfl, trivial⟩ ?_
        dsimp only
        rw [hst, hP0]
        first
          | (exfalso; omega)
          | (rw [normStep_skip (.inl (by assumption))]; exact .nil)
          | (rw [normStep_skip (.inr (by assumption))]; exact .nil)
          | (rw [normStep_in (by assumption) (by assumption) (by assumption)]; exact .cons _ _ .nil)
          | (rw [normStep_nil (by assumption) (by assumption) (by assumption)]; exact .nil))
    · obtain ⟨zs, z, tz, rfl, hz, hP1⟩ := strsAre_unsnoc hP
      rw [hz] at hP
      k_steps
      all_goals (
        have hgd : (zs ++ [z]).getD (-1 + ↑(zs ++ [z]).length : Int).toNat Str.empty = z := by
          have e : (-1 + ↑(zs ++ [z]).length : Int).toNat = zs.length := by simp; omega
          rw [e]; simp
        refine TEnd.intro ((_, _), _, _, _, _) (by assumption) (by assumption) ⟨by k_mem, by k_mem, trivial⟩ (by k_mem) ⟨by simp, by simp, trivial⟩ ⟨rfl, rfl, rfl, rfl, rfl, trivial⟩ ?_
        dsimp only
        rw [hst, hz]
        first
          | (exfalso; omega)
          | (rw [normStep_skip (.inl (by assumption))]; exact strsAre_snoc hP1 _ _)
          | (rw [normStep_skip (.inr (by assumption))]; exact strsAre_snoc hP1 _ _)
          | (rw [normStep_in (by assumption) (by assumption) (by assumption)]; exact strsAre_snoc (strsAre_snoc hP1 _ _) _ _)
          | (rw [normStep_in2 (by assumption) (by assumption) (by assumption) (by first | assumption | (rw [← hgd]; assumption))]; exact strsAre_snoc (strsAre_snoc hP1 _ _) _ _)
          | (rw [normStep_up (by assumption) (by assumption) (by assumption) (by first | assumption | (rw [← hgd]; assumption))]; exact hP1))
  · intro c h tk u hP F' N'
    obtain ⟨⟨cs, nn⟩, t1, t2, t3, t4⟩ := c
    dsimp only [chain] at F' N' hP
    rw [strsAre_len ha, List.take_length] at hP
    have hz := norm_sum hx
    have hj := StrLaws.join_length_le (Str.ofString "/") ((Txt.split (rootS x).2 (Str.ofString "/")).foldl normStep [])
    have hf : (Str.join (Str.ofString "/") ((Txt.split (rootS x).2 (Str.ofString "/")).foldl normStep [])).length ≤ 1002001 := by omega
    have hz2 : (((Txt.split (rootS x).2 (Str.ofString "/")).foldl normStep []).map (·.length)).sum + ((Txt.split (rootS x).2 (Str.ofString "/")).foldl normStep []).length * (Str.ofString "/").length ≤ 16777216 := by omega
    clear hj hz
    k_steps
    all_goals (try (exfalso; rw [PySem.Str.length_append] at *; omega))
    all_goals exact hQ _ _ _ (Fr.keep (by assumption))
end
section
local macro_rules | `(tactic| walk_at "call ref") => `(tactic| (
  (with_reducible show wpAny _ _ (PySem.call (Value.ref 142) [Value.str _ _]) _ _ _);
  (k_dflt (refine' fspath_ct ?X ?T ?d ?u ?_)); (case X => k_in); (case T => walk_at "my top"); (case d => walk_at "my room"); (case u => walk_at "my room");
  intro h' tk' kp'; walk_at "my keep"))
local macro_rules | `(tactic| walk_at "call ref") => `(tactic| (
  (with_reducible show wpAny _ _ (PySem.call (Value.ref 156) [Value.str _ _]) _ _ _);
  (k_dflt (refine' get_sep_ct ?X ?T ?d ?u ?_)); (case X => k_in); (case T => walk_at "my top"); (case d => walk_at "my room"); (case u => walk_at "my room");
  intro t' h' tk' kp'; walk_at "my keep"))


theorem join_ct : ∀ {w : World} {dp un : Nat} {fr : Option (List Env)} {gd : Option (List Code)} {s : Shared} {Q E : Value → Shared → Prop} {x : Str} {t : Tok} {vs : List Value} {ys : List Str}
   {p loose mg mb} 
   (X : (K1 w.params).In s.heap) (T : TopRead p loose mg mb s.heap) (hdp : dp + 8 < 1000) (hu : un + 60 < 9900)
   (hys : StrsAre vs ys)
   (hx : x.length + (ys.map fun y => y.length + 1).sum ≤ 1000000)
   (hQ : ∀ t h' tk, Keeps s.heap h' → Q (.str (ys.foldl joinStep x) t) { s with heap := h', toks := tk })
   , wpAny (model PySem.Challenge.rw_il0142_01.row.prog w) (Ar dp un fr gd) (call (.ref 163) (.str x t :: vs)) Q E s := by
  k_fill
  intro w dp un fr gd s Q E x t vs ys p loose mg mb X T hdp hu hys hx hQ
  refine' enterV vs (fun v => [(Str.ofString "a", .str x t), (Str.ofString "p", v)]) ?X ?T ?ho ?hcd ?hroom ?hbind ?hsz ?hloc ?_ ?hco ?hgen ?hk ?hcell
  case X => assumption
  case T => assumption
  case ho => k_is
  case hcd => k_is
  case hroom => exact roomE (by assumption)
  case hbind => cases hys <;> rfl
  case hsz => rw [strsAre_len hys, sizeLine_eq]; have := sum_len_le ys; omega
  case hloc => exact fun _ => locs rfl
  case hco => exact rfl
  case hgen => exact rfl
  case hk => exact rfl
  case hcell => decide
  intro D L' h₁ tk F' N'
  try dsimp only
  k_fold
  k_steps
  refine for_tup (σ := Str × Tok × Tok) (fun _ => [(D, { cls := .type "tuple", data := .seq vs.toArray })]) (fun c => [(Str.ofString "path", .str c.1 c.2.1), (Str.ofString "sep", .str (Str.ofString "/") c.2.2)])
    (fun i c => c.1 = (ys.take i).foldl joinStep x) (_, _, _) rfl (.inl fun _ => .head _) (by assumption) (by assumption) ⟨.head _, trivial⟩ ⟨by simp, trivial⟩ ⟨rfl, rfl, trivial⟩ rfl ?_ ?_
  · intro i v c h tk I it u hv hP F' N' hcl hne
    obtain ⟨y, ty, rfl, hy⟩ := strsAre_get hys hv
    obtain ⟨cur, t1, t2⟩ := c
    dsimp only [chain] at F' N' hP
    have hc : cur.length + (y.length + 1) ≤ 1000000 := by
      have h1 := foldJoin_len (ys.take i) x
      have h2 := sum_take_le (ys.map fun y => y.length + 1) (i + 1)
      have h3 : ((ys.map fun y => y.length + 1).take (i + 1)).sum = ((ys.take i).map fun y => y.length + 1).sum + (y.length + 1) := by
        rw [List.take_add_one, List.getElem?_map, hy]; simp
      rw [hP]; omega
    k_steps
    all_goals (
      refine TEnd.intro (_, _, _) (by assumption) (by assumption) ⟨.tail _ (.head _), trivial⟩ (.head _) ⟨by simp, trivial⟩ ⟨rfl, rfl, trivial⟩ ?_
      dsimp only
      rw [take_foldl _ _ _ hy, ← hP]
      first
        | exact (joinStep_abs (by assumption)).symm
        | exact (joinStep_nil (by assumption)).symm
        | exact (joinStep_end (by assumption) (by assumption) (by assumption)).symm
        | exact (joinStep_mid (by assumption) (by assumption) (by assumption)).symm)
  · intro c h tk u hP F' N'
    obtain ⟨cur, t1, t2⟩ := c
    dsimp only [chain] at F' N' hP
    rw [strsAre_len hys, List.take_length] at hP
    subst hP
    k_steps
    exact hQ _ _ _ (Fr.keep (by assumption))
end
section
set_option maxHeartbeats 400000
noncomputable abbrev bmD : List Value := [.type "collections.defaultdict", .type "dict", .type "object"]
theorem mroD : mroOf (.type "collections.defaultdict") = pure bmD := by kernel_rfl
theorem lkD_init : typeLookup (.type "collections.defaultdict") "__init__" = pure (some (.builtin "collections.defaultdict.__init__")) := by rw [typeLookup_type, builtinLookup_eq_fast]; kernel_rfl
theorem splitN : splitId "dict.__new__" = some ("dict", "__new__") := by decide +kernel
theorem kindN : builtinKind "dict.__new__" = some .builtinFn := by decide +kernel
theorem entryN : entryFor table "dict.__new__" = some Builtin.«dict.__new__» := entryFor_of_tree (by kernel_rfl)
theorem entryI : entryFor table "collections.defaultdict.__init__" = some Builtin.«collections.defaultdict.__init__» := entryFor_of_tree (by kernel_rfl)
theorem entryDI : entryFor table "dict.__init__" = some Builtin.«dict.__init__» := entryFor_of_tree (by kernel_rfl)
theorem kindI : builtinKind "collections.defaultdict.__init__" = some .slot := by decide +kernel
theorem splitI : splitId "collections.defaultdict.__init__" = some ("collections.defaultdict", "__init__") := by decide +kernel
theorem quietN : ("dict.__new__".startsWith "lifetime.") = false := by decide +kernel
theorem lkF_call : typeLookup (.type "function") "__call__" = pure (some (.builtin "function.__call__")) := by rw [typeLookup_type, builtinLookup_eq_fast]; kernel_rfl
theorem argsI (a b : Value) : argsOk "collections.defaultdict.__init__" ⟨[a, b], []⟩ := by unfold argsOk; kernel_rfl
theorem slotI : Slot "collections.defaultdict" "__init__" "collections.defaultdict.__init__" :=
  .of (owner := "collections.defaultdict") (n := "__init__") (by rw [typeLookup_type, builtinLookup_eq_fast]; kernel_rfl) (by decide +kernel) (by decide +kernel) (by decide +kernel)
    (by first | exact .inl (by decide +kernel) | exact .inr (by decide +kernel)) (by rw [isSubtype_type]; kernel_rfl)

section
variable {prog : Program} {w : World} {A : Around} {E : Value → Shared → Prop} {h : Heap} {g : Array GenState} {d : Drawn} {t : Nat} {os : OsState}
variable {nm q : Str} {C N : Addr} {bs : List Value} {sn : List Str} {sub : List Value} {col : Option Bool} {dd : Option Addr} {k0 k1 k2 k3 k5 : Option Value}

theorem check_new {M : Model} {rest : List Value} {Q : Unit → Shared → Prop}
    (hC : h.get? C = some (excClassObj nm q C N bs bmD true sn sub false col dd k0 k1 k2 k3 k5 "dict.__new__")) (hq : Q () ⟨h, g, d, t, os⟩) :
    wpAny M A (checkBuiltinCall "dict.__new__" ⟨.ref C :: rest, []⟩) Q E ⟨h, g, d, t, os⟩ := by
  have hcont : (Value.ref C :: bmD).contains (.type "dict") = true := by rw [List.contains_cons, show bmD.contains (.type "dict") = true from by decide, Bool.or_true]
  simp only [checkBuiltinCall, kindN, splitN]
  repeat (first | refine wpAny_loadPart_at hC ?_ | (refine wpAny_isSubtype_exc hC ?_; rw [hcont]) | refine wpAny_staticBase_exc hC ?_ | refine wpAny_madeBy_exc hC ?_ | simp only [bne_self_eq_false, Bool.false_eq_true, if_false] | wp_step)
  exact hq

theorem code_new {R : Result → Shared → Prop} {rest : List Value}
    (hC : h.get? C = some (excClassObj nm q C N bs bmD true sn sub false col dd k0 k1 k2 k3 k5 "dict.__new__"))
    (hq : R (.ok (.ret (.ref (h.objs.size + 1)))) ⟨(h.push { cls := .type "dict", data := .dict #[] }).push { cls := .ref C, dict := some h.objs.size, data := .dict #[] }, g, d, t, os⟩) :
    codeAny (model prog w) A (.builtin "dict.__new__" ⟨.ref C :: rest, []⟩) R ⟨h, g, d, t, os⟩ := by
  have hcont : (Value.ref C :: bmD).contains (.type "dict") = true := by rw [List.contains_cons, show bmD.contains (.type "dict") = true from by decide, Bool.or_true]
  have hT : (⟨h, g, d, t, os⟩ : Shared).TypeIs (.ref C) "type" := ⟨_, hC, rfl⟩
  have f3 := tc_sub
  refine codeAny_builtin entryN ?_
  unfold Builtin.«dict.__new__»
  repeat (any_goals (first | assumption | (with_reducible refine wpAny_isSubtype_exc hC ?_; rw [hcont]) | with_reducible refine wpAny_mroOf_exc hC ?_ | with_reducible refine wpAny_loadPart_at hC ?_ | wp_step))
  show R _ _
  rw [Heap.size_push]
  exact hq

structure MadeFold (h h' : Heap) (C f : Addr) : Prop where
  keeps : ∀ b o, h.get? b = some o → h'.get? b = some o
  size : h'.objs.size = h.objs.size + 2
  bag : h'.get? h.objs.size = some { cls := .type "dict", data := .dict #[] }
  fold : h'.get? (h.objs.size + 1) = some { cls := .ref C, dict := some h.objs.size, data := .dict #[], slots := #[some (.ref f)] }

theorem init_D {x f : Addr} {dx : Option Addr} {of : Obj} {Q : Fin → Shared → Prop}
    (hC : h.get? C = some (excClassObj nm q C N bs bmD true sn sub false col dd k0 k1 k2 k3 k5 "dict.__new__"))
    (hx : h.get? x = some { cls := .ref C, dict := dx, data := .dict #[] })
    (hf : h.get? f = some of) (hfc : of.cls = .type "function")
    (hq : ∀ h', Heap.SameBut x h h' → h'.get? x = some { cls := .ref C, dict := dx, data := .dict #[], slots := #[some (.ref f)] } → Q (.done (.ret .none)) ⟨h', g, d, t, os⟩) :
    wpAny (model prog w) A (Builtin.«collections.defaultdict.__init__» ⟨[.ref x, .ref f], []⟩) Q E ⟨h, g, d, t, os⟩ := by
  have hcO : (Value.ref C :: bmD).contains (.type "collections.OrderedDict") = false := by
    rw [List.contains_cons, show bmD.contains (.type "collections.OrderedDict") = false from by decide, Bool.or_false]; rfl
  have hTf : (⟨h, g, d, t, os⟩ : Shared).TypeIs (.ref f) "function" := ⟨_, hf, hfc⟩
  have f1 := lkF_call
  unfold Builtin.«collections.defaultdict.__init__»
  repeat (any_goals (first | assumption | (with_reducible refine wpAny_isSubtype_exc hC ?_; rw [hcO]) | with_reducible refine wpAny_loadPart_at hx ?_ | with_reducible refine wpAny_loadPart_at hf ?_ | wp_step))
  have hne : x ≠ C := fun e => by rw [e, hC] at hx; cases hx
  generalize hh' : (h.update x fun o => { cls := o.cls, dict := o.dict, data := o.data, slots := (o.slots ++ Array.replicate (0 + 1 - o.slots.size) none).setIfInBounds 0 [Value.ref f].head? }) = h'
  have hs : Heap.SameBut x h h' := by rw [← hh']; exact Heap.SameBut.update ..
  have hx' : h'.get? x = some { cls := .ref C, dict := dx, data := .dict #[], slots := #[some (.ref f)] } := by rw [← hh']; exact Heap.get?_update_self _ hx rfl
  have hC' : h'.get? C = some (excClassObj nm q C N bs bmD true sn sub false col dd k0 k1 k2 k3 k5 "dict.__new__") := (hs.2 C (fun e => hne e.symm)).trans hC
  refine codeAny_builtin entryDI ?_
  unfold Builtin.«dict.__init__»
  repeat (any_goals (first | assumption | (with_reducible refine wpAny_isSubtype_exc hC' ?_; rw [hcO]) | with_reducible refine wpAny_loadPart_at hx' ?_ | wp_step))
  exact hq h' hs hx'

theorem check_initD {M : Model} {x f : Addr} {o : Obj} {Q : Unit → Shared → Prop} (hx : h.get? x = some o) (hc : o.cls = .ref C)
    (hC : h.get? C = some (excClassObj nm q C N bs bmD true sn sub false col dd k0 k1 k2 k3 k5 "dict.__new__")) (hq : Q () ⟨h, g, d, t, os⟩) :
    wpAny M A (checkBuiltinCall "collections.defaultdict.__init__" ⟨[.ref x, .ref f], []⟩) Q E ⟨h, g, d, t, os⟩ := by
  have ha : argsOk "collections.defaultdict.__init__" ⟨.ref x :: [.ref f], []⟩ := argsI _ _
  have hb : bmD.contains (.type "collections.defaultdict") = true := by decide
  with_reducible exact wpAny_check_slot_inst kindI splitI ha hb hx hc hC hq

theorem type_call_D {mN : Str → Option Value} {f : Addr} {of : Obj} {Q : Fin → Shared → Prop}
    (hC : h.get? C = some (excClassObj nm q C N bs bmD true sn sub false col dd k0 k1 k2 k3 k5 "dict.__new__")) (hn : h.Ns N mN) (hni : mN "__init__" = none)
    (hf : h.get? f = some of) (hfc : of.cls = .type "function")
    (hq : ∀ h', MadeFold h h' C f → Q (.done (.ret (.ref (h.objs.size + 1)))) ⟨h', g, d, t, os⟩) :
    wpAny (model prog w) A (Builtin.«type.__call__» ⟨[.ref C, .ref f], []⟩) Q E ⟨h, g, d, t, os⟩ := by
  repeat (first | with_reducible refine wpAny_loadPart_at hC ?_ | with_reducible refine wpAny_madeBy_exc hC ?_ | wp_step)
  refine codeAny_call_builtin_code (Code.quiet_builtin _ quietN) ?_
  refine check_new hC ?_
  refine code_new hC ?_
  show wpAny _ _ _ _ _ _
  have kp : ∀ b o, h.get? b = some o → ((h.push { cls := .type "dict", data := .dict #[] }).push { cls := .ref C, dict := some h.objs.size, data := .dict #[] }).get? b = some o := fun b o e => Heap.get?_push_of_some _ (Heap.get?_push_of_some _ e)
  have hget : ((h.push { cls := .type "dict", data := .dict #[] }).push { cls := .ref C, dict := some h.objs.size, data := .dict #[] }).get? (h.objs.size + 1) = some { cls := .ref C, dict := some h.objs.size, data := .dict #[] } := by heap_get
  have hgd : ((h.push { cls := .type "dict", data := .dict #[] }).push { cls := .ref C, dict := some h.objs.size, data := .dict #[] }).get? h.objs.size = some { cls := .type "dict", data := .dict #[] } :=
    Heap.get?_push_of_some _ (Heap.get?_push_at rfl rfl)
  have hsz : ((h.push { cls := .type "dict", data := .dict #[] }).push { cls := .ref C, dict := some h.objs.size, data := .dict #[] }).objs.size = h.objs.size + 2 := by simp only [Heap.size_push]
  generalize ((h.push { cls := .type "dict", data := .dict #[] }).push { cls := .ref C, dict := some h.objs.size, data := .dict #[] }) = h₁ at kp hget hgd hsz
  have hC₁ := kp _ _ hC
  have hf₁ := kp _ _ hf
  have hn₁ : h₁.Ns N mN := hn.keeps kp
  have hx : ∃ x, x = h.objs.size + 1 := ⟨_, rfl⟩
  obtain ⟨x, hx⟩ := hx
  rw [← hx] at hget ⊢
  have hcC : (Value.ref C :: bmD).contains (.ref C) = true := by simp
  unfold isInstance
  repeat (first | with_reducible refine wpAny_loadPart_at hget ?_ | (with_reducible refine wpAny_isSubtype_exc hC₁ ?_; rw [hcC]) | wp_step)
  show wpAny _ _ (typeLookup (.ref C) _) _ _ _
  refine wpAny_typeLookup_exc hC₁ hn₁ mroD lkD_init ?_
  rw [hni]
  refine wpAny_holding ?_
  refine wpAny_bind ?_
  refine wpAny_of_eq (slotI.bind _) ?_
  dsimp only [List.cons_append, List.nil_append]
  refine wpAny_bind ?_
  refine wpAny_call ?_
  refine codeAny_call_builtin slotI.plain entryI ?_
  refine check_initD hget rfl hC₁ ?_
  refine init_D hC₁ hget hf₁ hfc fun h' hs hx' => ?_
  repeat wp_step
  rw [hx]
  have hne : h.objs.size ≠ x := by omega
  refine hq h' ⟨fun b o e => ?_, hs.1.trans hsz, (hs.2 _ hne).trans hgd, by rw [← hx]; exact hx'⟩
  exact (hs.2 b (fun e2 => by have l := Heap.lt_size e; rw [e2, hx] at l; exact absurd l (Nat.not_lt.mpr (Nat.le_succ _)))).trans (kp b o e)

theorem call_D {mN : Str → Option Value} {f : Addr} {of : Obj} {Q : Value → Shared → Prop}
    (hC : h.get? C = some (excClassObj nm q C N bs bmD true sn sub false col dd k0 k1 k2 k3 k5 "dict.__new__")) (hn : h.Ns N mN) (hni : mN "__init__" = none)
    (hf : h.get? f = some of) (hfc : of.cls = .type "function")
    (hq : ∀ h', MadeFold h h' C f → Q (.ref (h.objs.size + 1)) ⟨h', g, d, t, os⟩) :
    wpAny (model prog w) A (call (.ref C) [.ref f]) Q E ⟨h, g, d, t, os⟩ := by
  have f1 := tc_lookup
  have f2 := tc_bind (.ref C)
  have hT : (⟨h, g, d, t, os⟩ : Shared).TypeIs (.ref C) "type" := ⟨_, hC, rfl⟩
  refine wpAny_call (codeAny_of_tree ?_)
  show wpAny _ _ (callAny (.ref C) _) _ _ _
  repeat (any_goals (first | assumption | with_reducible refine wpAny_loadPart_at hC ?_ | wp_step))
  refine ⟨rfl, ?_⟩
  refine codeAny_call_builtin_at (Code.quiet_builtin _ (by decide +kernel)) entry_typeCall (wpAny_check_type_call_sub hC (type_call_D hC hn hni hf hfc fun h' hm => ?_))
  exact hq h' hm
end
end
section
set_option maxHeartbeats 400000
theorem lk_md_get : typeLookup (.type "method_descriptor") "__get__" = pure (some (.builtin "method_descriptor.__get__")) := by rw [typeLookup_type, builtinLookup_eq_fast]; kernel_rfl
theorem ty_miss : typeOf (.builtin "collections.defaultdict.__missing__") = pure (.type "method_descriptor") := by show builtinType _ = _; rw [builtinType_eq_fast]; kernel_rfl
theorem own_miss : classOwn (.type "collections.defaultdict") "__missing__" = pure (some (.builtin "collections.defaultdict.__missing__")) := by
  show (pure (builtinOwn "collections.defaultdict" "__missing__") : Sem _) = _
  rw [builtinOwn_eq_fast]; kernel_rfl
theorem entry_md_get : entryFor table "method_descriptor.__get__" = some Builtin.«method_descriptor.__get__» := entryFor_of_tree (by kernel_rfl)
theorem args_md_get (a b c : Value) : argsOk "method_descriptor.__get__" ⟨[a, b, c], []⟩ := by unfold argsOk; kernel_rfl
theorem slot_md_get : Slot "method_descriptor" "__get__" "method_descriptor.__get__" :=
  .of (owner := "method_descriptor") (n := "__get__") lk_md_get (by decide +kernel) (by decide +kernel) (by decide +kernel)
    (by first | exact .inl (by decide +kernel) | exact .inr (by decide +kernel)) (by rw [isSubtype_type]; kernel_rfl)
theorem told_miss : Manifest.toldItsClass.contains "collections.defaultdict.__missing__" = false := by decide +kernel

theorem hid_miss : (toString "collections.defaultdict" ++ toString "." ++ toString (Str.ofString "__missing__").toString) = "collections.defaultdict.__missing__" := by decide +kernel
theorem kind_miss : builtinKind "collections.defaultdict.__missing__" = some .method := by decide +kernel
section
variable {prog : Program} {w : World} {A : Around} {E : Value → Shared → Prop} {s : Shared}
noncomputable abbrev boundMiss (x : Addr) : Obj := { cls := .type "builtin_function_or_method", data := .fields #[.builtin "collections.defaultdict.__missing__", .ref x] }
theorem run_md_get {x C : Addr} {ox : Obj} {P : Fin → Shared → Prop} (hx : s.heap.get? x = some ox) (hc : ox.cls = .ref C) (hsub : Looks (model prog w) s.heap (isSubtype (.ref C) (.type "collections.defaultdict")) true)
    (h : P (.done (.ret (.ref s.heap.objs.size))) { s with heap := s.heap.push (boundMiss x) }) :
    wpAny (model prog w) A (Builtin.«method_descriptor.__get__» ⟨[.builtin "collections.defaultdict.__missing__", .ref x, .ref C], []⟩) P E s := by
  unfold Builtin.«method_descriptor.__get__»
  refine wpAny_bind (wpAny_of_eq (a := (.builtin "collections.defaultdict.__missing__", some (.ref x), some (.ref C))) (by first | rfl | kernel_rfl) ?_)
  simp only [told_miss]
  refine KFB.if_not rfl ?_
  refine wpAny_bind ?_
  refine wpAny_bind (wpAny_of_eq (a := (("__missing__" : Str), .type "collections.defaultdict")) (by first | rfl | kernel_rfl) ?_)
  refine wpAny_bind ?_
  unfold isInstance
  obtain ⟨h, g, d, t, os⟩ := s
  repeat (first | (with_reducible refine wpAny_loadPart_at hx ?_; rw [hc]) | (refine hsub.here ?_) | wp_step)
  exact h
end
section
variable {prog : Program} {w : World} {A : Around} {E : Value → Shared → Prop} {h : Heap} {g : Array GenState} {d : Drawn} {t : Nat} {os : OsState}
theorem super_ga_miss {so x C : Addr} {ox : Obj} {tk : Tok} {Q : Fin → Shared → Prop}
    (hso : h.get? so = some (ks_superObj C x C)) (hno : Looks (model prog w) h (opaqueClassAbove (.ref C)) none)
    (hC : Looks (model prog w) h (mroOf (.ref C)) (.ref C :: bmD)) (hx : h.get? x = some ox) (hc : ox.cls = .ref C) (hsub : Looks (model prog w) h (isSubtype (.ref C) (.type "collections.defaultdict")) true) (hxC : x ≠ C)
    (hq : Q (.done (.ret (.ref h.objs.size))) ⟨h.push (boundMiss x), g, d, t, os⟩) :
    wpAny (model prog w) A (Builtin.«super.__getattribute__» ⟨[.ref so, .str "__missing__" tk], []⟩) Q E ⟨h, g, d, t, os⟩ := by
  have hne : (Value.ref x == Value.ref C) = false := by simp [hxC]
  have hn : (("__missing__" : Str) == ("__class__" : Str)) = false := by decide +kernel
  have hdt : (ks_superObj C x C).data = .fields #[.ref C, .ref x, .ref C] := rfl
  have f0 : (#[.ref C, .ref x, .ref C] : Array Value)[0]? = some (.ref C) := rfl
  have f1 : (#[.ref C, .ref x, .ref C] : Array Value)[1]? = some (.ref x) := rfl
  have f2 : (#[.ref C, .ref x, .ref C] : Array Value)[2]? = some (.ref C) := rfl
  have hl : ((Value.ref C :: bmD).dropWhile (· != .ref C)).drop 1 = bmD := by simp
  unfold Builtin.«super.__getattribute__»
  repeat (first
    | (with_reducible refine wpAny_field hso hdt f0 ?_) | (with_reducible refine wpAny_field hso hdt f1 ?_) | (with_reducible refine wpAny_field hso hdt f2 ?_)
    | (with_reducible refine ks_wpAny_notOpaque hno ?_)
    | (with_reducible refine Looks.at hC ?_; rw [hl])
    | (simp only [hn, hne, Bool.or_false, Bool.false_eq_true, if_false])
    | wp_step
    | dsimp only)
  rw [hid_miss]
  simp only [kind_miss]
  refine wpAny_of_eq lk_md_get ?_
  dsimp only
  refine wpAny_bind (wpAny_holding (wpAny_call_entry slot_md_get ty_miss entry_md_get (run_md_get (s := ⟨h, g, d, t, os⟩) hx hc hsub ⟨_, rfl, ?_⟩) (args_md_get _ _ _)))
  repeat (first | wp_step | dsimp only)
  exact hq

theorem attr_super_miss {so x C : Addr} {ox : Obj} {Q : Value → Shared → Prop}
    (hso : h.get? so = some (ks_superObj C x C)) (hno : Looks (model prog w) h (opaqueClassAbove (.ref C)) none)
    (hC : Looks (model prog w) h (mroOf (.ref C)) (.ref C :: bmD)) (hx : h.get? x = some ox) (hc : ox.cls = .ref C) (hsub : Looks (model prog w) h (isSubtype (.ref C) (.type "collections.defaultdict")) true) (hxC : x ≠ C)
    (hq : Q (.ref h.objs.size) ⟨h.push (boundMiss x), g, d, t + 1, os⟩) :
    wpAny (model prog w) A (getAttr (.ref so) "__missing__" true) Q E ⟨h, g, d, t, os⟩ := by
  have hlk := F.ks_slot_super_ga.lookup
  have hT : ∀ t', (⟨h, g, d, t', os⟩ : Shared).TypeIs (.ref so) "super" := fun _ => ⟨_, hso, rfl⟩
  unfold getAttr getAttrBy
  refine wpAny_bind (wpAny_mkText (wpAny_holding (wpAny_bind (wpAny_typeOf (hT _) (wpAny_bind (wpAny_of_eq hlk ?_))))))
  show wpAny _ _ (getAttrByItsOwn (.ref so) (.str _ t) (.type "super") (.builtin "super.__getattribute__") true true) _ _ _
  unfold getAttrByItsOwn hookBefore callGetattribute boundAndCalled
  refine wpAny_bind (wpAny_of_eq (show (if onTheHeap (.type "super") then typeLookup (.type "super") "__getattr__" else pure none) = pure none from rfl) ?_)
  refine wpAny_bind (wpAny_attempt (wpAny_holding ?_))
  show wpAny _ _ (bindSpecial (.builtin "super.__getattribute__") (.ref so) >>= _) _ _ _
  refine wpAny_bind (wpAny_of_eq (F.ks_slot_super_ga.bind _) ?_)
  refine wpAny_mono (Q := fun v s' => v = .ref h.objs.size ∧ s' = ⟨h.push (boundMiss x), g, d, t + 1, os⟩) (E := fun _ _ => False)
    (wpAny_call_entry F.ks_slot_super_ga (hT _) F.ks_entry_super_ga (super_ga_miss hso hno hC hx hc hsub hxC ⟨_, rfl, rfl, rfl⟩) (F.ks_gaArgs_super _ _)) (fun v s' hv => ?_) fun _ _ z => z.elim
  obtain ⟨rfl, rfl⟩ := hv
  exact wpAny_pure hq
end
end
section
set_option maxHeartbeats 400000
section
variable {prog : Program} {w : World} {A : Around} {E : Value → Shared → Prop} {K : Frag} {x C : Addr} {ox : Obj} {od : Option Obj} {h : Heap} {g : Array GenState} {d : Drawn} {t : Nat} {os : OsState}
theorem slot_ga : Slot "collections.defaultdict" "__getattribute__" "collections.defaultdict.__getattribute__" :=
  .of (owner := "collections.defaultdict") (n := "__getattribute__") (by rw [typeLookup_type, builtinLookup_eq_fast]; kernel_rfl) (by decide +kernel) (by decide +kernel) (by decide +kernel)
    (by first | exact .inl (by decide +kernel) | exact .inr (by decide +kernel)) (by rw [isSubtype_type]; kernel_rfl)
theorem en_ga : entryFor table "collections.defaultdict.__getattribute__" = some Builtin.«object.__getattribute__» :=
  entryFor_alias (id' := "object.__getattribute__") (by rw [fastTable_eq_tree]; kernel_rfl) (by decide +kernel) (by decide +kernel) (by rw [fastTable_eq_tree]; kernel_rfl)
theorem ar_ga (a b : Value) : argsOk "collections.defaultdict.__getattribute__" ⟨[a, b], []⟩ := by unfold argsOk; kernel_rfl
theorem kind_ga : builtinKind "collections.defaultdict.__getattribute__" = some .slot := by decide +kernel
theorem split_ga : splitId "collections.defaultdict.__getattribute__" = some ("collections.defaultdict", "__getattribute__") := by decide +kernel
theorem call_slot_inst {name : Value} {Q : Value → Shared → Prop} (I : InstAt h x ox C od) (hsub : Looks (model prog w) h (isSubtype (.ref C) (.type "collections.defaultdict")) true)
    (hq : wpAny (model prog w) A.in1 (Builtin.«object.__getattribute__» ⟨[.ref x, name], []⟩) (fun fin s' => ∃ v, fin = .done (.ret v) ∧ Q v s') E ⟨h, g, d, t, os⟩) :
    wpAny (model prog w) A (call (.builtin "collections.defaultdict.__getattribute__") [.ref x, name]) Q E ⟨h, g, d, t, os⟩ := by
  have L0 := I.type (M := model prog w)
  have hchk : ∀ {Q' : Unit → Shared → Prop}, Q' () ⟨h, g, d, t, os⟩ → wpAny (model prog w) A.in1 (checkBuiltinCall "collections.defaultdict.__getattribute__" ⟨[.ref x, name], []⟩) Q' E ⟨h, g, d, t, os⟩ := fun {Q'} hq' => by
    simp only [checkBuiltinCall, kind_ga, split_ga]
    refine wpAny_bind ?_
    unfold isInstance
    refine wpAny_bind (L0.at (hsub.at ?_))
    have ha := ar_ga (.ref x) name
    cases hsig : Manifest.signature? "collections.defaultdict.__getattribute__" with
    | none => exact wpAny_pure hq'
    | some sig =>
      simp only [argsOk, hsig] at ha
      have h2 : Bind.checkArgs "collections.defaultdict.__getattribute__" sig ⟨[.ref x, name], []⟩ = pure () := ha
      show wpAny (model prog w) A.in1 (Bind.checkArgs "collections.defaultdict.__getattribute__" sig ⟨[.ref x, name], []⟩) Q' E _
      rw [h2]; exact wpAny_pure hq'
  refine wpAny_call (codeAny_call_builtin slot_ga.plain en_ga (hchk ?_))
  refine wpAny_mono hq (fun fin s' hf => ?_) fun _ _ z => z
  obtain ⟨v, rfl, hv⟩ := hf
  exact hv
theorem call_ga {name : Str} {tk : Tok} {r : Builtin.ObjectAttr.Found} {Q : Value → Shared → Prop} (I : InstAt h x ox C od) (hsub : Looks (model prog w) h (isSubtype (.ref C) (.type "collections.defaultdict")) true)
    (L2 : Looks (model prog w) h (Builtin.ObjectAttr.find (.ref x) (.ref C) name) r)
    (hq : wpAny (model prog w) A.in1 (match r with | .value v => ret v | .bind g a => Builtin.ObjectAttr.bindTo g a (.ref x) (.ref C) | .missing => (Builtin.ObjectAttr.noSuchAttribute (.ref x) name : Sem Fin)) (fun fin s' => ∃ v, fin = .done (.ret v) ∧ Q v s') E ⟨h, g, d, t, os⟩) :
    wpAny (model prog w) A (call (.builtin "collections.defaultdict.__getattribute__") [.ref x, .str name tk]) Q E ⟨h, g, d, t, os⟩ := by
  have L0 := I.type (M := model prog w)
  have e1 : (Value.ref C == Value.type "module") = false := rfl
  have e2 : (Value.ref C == Value.type "type") = false := rfl
  refine call_slot_inst I hsub ?_
  refine wpAny_bind (wpAny_of_eq (a := (.ref x, [.str name tk])) (by first | rfl | kernel_rfl) ?_)
  dsimp only
  refine wpAny_bind (wpAny_of_eq (a := name) (by first | rfl | kernel_rfl) ?_)
  refine wpAny_bind (L0.at ?_)
  refine wpAny_bind (L2.at ?_)
  cases r with
  | value v => exact hq
  | bind gg a => exact hq
  | missing =>
    simp only [e1, e2, Bool.false_eq_true, if_false]
    exact hq
theorem by_frozen {v : Value} {tk : Tok} {Q : Value → Shared → Prop} (X : K.In h) (I : InstAt h x ox C od) (hga : findIn K (.ref C) "__getattribute__" = some (some (.builtin "collections.defaultdict.__getattribute__")))
    (hk : findIn K (.ref C) "__getattr__" = some none) (hin : mroIn K C (.type "collections.defaultdict") = some true)
    (hf : findObj K C od "_frozen" = some (.value v)) (hh : handedIn v = true) (hq : Q v ⟨h, g, d, t, os⟩) :
    wpAny (model prog w) A (getAttrBy (.ref x) (.str "_frozen" tk) false) Q E ⟨h, g, d, t, os⟩ := by
  have L0 := I.type (M := model prog w)
  have L1 := looks_findIn (M := model prog w) X hga
  have L2 := looks_find (M := model prog w) X I hf
  have L3 := looks_findIn (M := model prog w) X hk
  unfold getAttrBy
  refine wpAny_holding (wpAny_bind (L0.at (wpAny_bind (L1.at ?_))))
  show wpAny _ _ (getAttrByItsOwn _ _ _ _ _ _) _ _ _
  unfold getAttrByItsOwn hookBefore callGetattribute boundAndCalled
  refine wpAny_bind (L3.at ?_)
  refine wpAny_bind (wpAny_attempt (wpAny_holding ?_))
  show wpAny _ _ (bindSpecial _ (.ref x) >>= _) _ _ _
  refine wpAny_bind (wpAny_of_eq (slot_ga.bind _) ?_)
  refine call_ga I (looks_mroIn X hin) L2 ?_
  refine wpAny_pure ⟨_, rfl, ?_⟩
  show wpAny _ _ (handedOut v) _ _ _
  rw [handedOut_of hh]; exact wpAny_pure hq
theorem by_missing {tk : Tok} {Q : Value → Shared → Prop} {oC : Obj} {cd : ClassData} (hA : A.handled = none) (X : K.In h) (I : InstAt h x ox C od) (hga : findIn K (.ref C) "__getattribute__" = some (some (.builtin "collections.defaultdict.__getattribute__")))
    (hk : findIn K (.ref C) "__getattr__" = some none) (hin : mroIn K C (.type "collections.defaultdict") = some true) (hC : h.get? C = some oC) (hcd : oC.data = .cls cd) (hnm : cd.name = "FreezableDefaultDict")
    (hf : findObj K C od "_frozen" = some .missing)
    (hq : ∀ e h' tk', Heap.NewAttrErr h h' e (.ref x) "_frozen" → E (.ref e) ⟨h', g, d, tk', os⟩) :
    wpAny (model prog w) A (getAttrBy (.ref x) (.str "_frozen" tk) false) Q E ⟨h, g, d, t, os⟩ := by
  have L0 := I.type (M := model prog w)
  have L1 := looks_findIn (M := model prog w) X hga
  have L2 := looks_find (M := model prog w) X I hf
  have L3 := looks_findIn (M := model prog w) X hk
  have hsub : isSubtype (.type "AttributeError") (.type "AttributeError") = pure true := sub_AttributeError
  unfold getAttrBy
  refine wpAny_holding (wpAny_bind (L0.at (wpAny_bind (L1.at ?_))))
  show wpAny _ _ (getAttrByItsOwn _ _ _ _ _ _) _ _ _
  unfold getAttrByItsOwn hookBefore callGetattribute boundAndCalled
  refine wpAny_bind (L3.at ?_)
  refine wpAny_bind (wpAny_attempt (wpAny_holding ?_))
  show wpAny _ _ (bindSpecial _ (.ref x) >>= _) _ _ _
  refine wpAny_bind (wpAny_of_eq (slot_ga.bind _) ?_)
  refine call_ga I (looks_mroIn X hin) L2 ?_
  show wpAny _ _ (Builtin.ObjectAttr.noSuchAttribute _ _) _ _ _
  unfold Builtin.ObjectAttr.noSuchAttribute
  repeat (first | refine L0.at ?_ | wp_step)
  rw [hcd]
  refine wpAny_pure ?_
  have hs : Array.foldl (fun k c => k + (Str.utf8Of c).length) 0 (Str.ofString "FreezableDefaultDict").cps ≤ 100 := by decide +kernel
  simp only [hnm, hs, if_true]
  refine wpAny_pure ?_
  refine wpAny_raiseAttrError hA (fun h' tk' e he => ?_) ?_
  · obtain ⟨tt, uu, hee⟩ := he.there
    repeat (any_goals (first | assumption | (with_reducible refine wpAny_loadPart_at hee ?_) | wp_step))
    exact hq e h' tk' he
  · decide +kernel
theorem ty_getattr : builtinKind "getattr" = none := by decide +kernel
theorem pl_getattr : plainId "getattr" = true := by decide +kernel
theorem en_getattr : entryFor table "getattr" = some Builtin.«getattr» := entryFor_of_tree (by kernel_rfl)
theorem ar_getattr (a b c : Value) : argsOk "getattr" ⟨[a, b, c], []⟩ := by unfold argsOk; kernel_rfl
theorem sub_module {M : Model} (X : K.In h) (hm : mroIn K C (.type "module") = some false) : Looks M h (isSubtype (.ref C) (.type "module")) false := looks_mroIn X hm
theorem getattr_frozen {v dflt : Value} {tk : Tok} {Q : Value → Shared → Prop} (X : K.In h) (I : InstAt h x ox C od) (hga : findIn K (.ref C) "__getattribute__" = some (some (.builtin "collections.defaultdict.__getattribute__")))
    (hk : findIn K (.ref C) "__getattr__" = some none) (hin : mroIn K C (.type "collections.defaultdict") = some true) (hm : mroIn K C (.type "module") = some false)
    (hf : findObj K C od "_frozen" = some (.value v)) (hh : handedIn v = true) (hq : Q v ⟨h, g, d, t, os⟩) :
    wpAny (model prog w) A (call (.builtin "getattr") [.ref x, .str "_frozen" tk, dflt]) Q E ⟨h, g, d, t, os⟩ := by
  have L0 := I.type (M := model prog w)
  have L1 := sub_module (M := model prog w) X hm
  have hne : (("_frozen" : Str) != ("get_source" : Str)) = true := by decide +kernel
  refine call_function_entry ty_getattr pl_getattr en_getattr (ar_getattr _ _ _) ?_
  unfold Builtin.«getattr»
  refine wpAny_bind (wpAny_of_eq (a := [.ref x, .str "_frozen" tk, dflt]) (by first | rfl | kernel_rfl) ?_)
  dsimp only
  refine wpAny_bind (wpAny_of_eq (a := ()) (by first | rfl | kernel_rfl) ?_)
  refine wpAny_bind (wpAny_of_eq (a := none) (by first | rfl | kernel_rfl) ?_)
  dsimp only
  refine wpAny_bind ?_
  refine wpAny_bind ?_
  repeat (first | (with_reducible refine by_frozen X I hga hk hin hf hh ?_) | refine L0.at ?_ | refine L1.at ?_ | wp_step)
  exact ⟨_, rfl, hq⟩
theorem getattr_missing {dflt : Value} {tk : Tok} {Q : Value → Shared → Prop} {oC : Obj} {cd : ClassData} (hA : A.handled = none) (X : K.In h) (I : InstAt h x ox C od) (hga : findIn K (.ref C) "__getattribute__" = some (some (.builtin "collections.defaultdict.__getattribute__")))
    (hk : findIn K (.ref C) "__getattr__" = some none) (hin : mroIn K C (.type "collections.defaultdict") = some true) (hC : h.get? C = some oC) (hcd : oC.data = .cls cd) (hnm : cd.name = "FreezableDefaultDict")
    (hm : mroIn K C (.type "module") = some false)
    (hf : findObj K C od "_frozen" = some .missing)
    (hq : ∀ h' tk', (∀ b o, h.get? b = some o → h'.get? b = some o) → Q dflt ⟨h', g, d, tk', os⟩) :
    wpAny (model prog w) A (call (.builtin "getattr") [.ref x, .str "_frozen" tk, dflt]) Q E ⟨h, g, d, t, os⟩ := by
  have L0 := I.type (M := model prog w)
  have L1 := sub_module (M := model prog w) X hm
  have hne : (("_frozen" : Str) != ("get_source" : Str)) = true := by decide +kernel
  have hA' : A.in1.handled = none := hA
  have hsub : isSubtype (.type "AttributeError") (.type "AttributeError") = pure true := sub_AttributeError
  refine call_function_entry ty_getattr pl_getattr en_getattr (ar_getattr _ _ _) ?_
  unfold Builtin.«getattr»
  refine wpAny_bind (wpAny_of_eq (a := [.ref x, .str "_frozen" tk, dflt]) (by first | rfl | kernel_rfl) ?_)
  dsimp only
  refine wpAny_bind (wpAny_of_eq (a := ()) (by first | rfl | kernel_rfl) ?_)
  refine wpAny_bind (wpAny_of_eq (a := none) (by first | rfl | kernel_rfl) ?_)
  dsimp only
  refine wpAny_bind ?_
  refine wpAny_bind ?_
  repeat (first | (with_reducible refine by_missing hA' X I hga hk hin hC hcd hnm hf ?_) | refine L0.at ?_ | refine L1.at ?_ | wp_step)
  intro e h' tk' he
  obtain ⟨tt, uu, hee⟩ := he.there
  repeat (any_goals (first | assumption | (with_reducible refine wpAny_loadPart_at hee ?_) | wp_step))
  exact ⟨_, rfl, hq h' tk' he.keeps⟩
end
end
section
set_option maxHeartbeats 400000
noncomputable abbrev Kid := Str × Tok × Value
noncomputable def entOf (w : World) (k : Kid) : DictEntry := { hash := hashStr w k.1, key := .str k.1 k.2.1, val := k.2.2 }
noncomputable def esOf (w : World) (kids : List Kid) : Array DictEntry := (kids.map (entOf w)).toArray
noncomputable def kfind (kids : List Kid) (x : Str) : Option Value := (kids.find? fun k => decide (k.1 = x)).map (·.2.2)
section
variable {prog : Program} {w : World} {A : Around} {E : Value → Shared → Prop} {s : Shared}
theorem keysOf_es (kids : List Kid) : KeysOf (strKind prog w) (esOf w kids) := by
  intro e he
  unfold esOf at he
  rw [List.mem_toArray] at he
  obtain ⟨k, _, rfl⟩ := List.mem_map.mp he
  exact ⟨k.1, strKind_is prog w k.1 k.2.1, rfl⟩
theorem is_ent (k : Kid) (x : Str) : (strKind prog w).is x (entOf w k).key = decide (k.1 = x) := by
  show (strKind prog w).is x (.str k.1 k.2.1) = _
  rw [KeyKind.is_eq_decide (strKind_is prog w k.1 k.2.1)]
  exact decide_eq_decide.mpr ⟨fun h => h.symm, fun h => h.symm⟩
theorem findBy_es (kids : List Kid) (x : Str) : findBy (strKind prog w).is (esOf w kids) x = kfind kids x := by
  unfold findBy esOf kfind
  rw [List.find?_toArray]
  induction kids with
  | nil => rfl
  | cons k r ih =>
    simp only [List.map_cons, List.find?_cons, is_ent]
    cases decide (k.1 = x) with
    | true => rfl
    | false => exact ih
theorem idx_es (kids : List Kid) (x : Str) : ((esOf w kids).findIdx? fun e => (strKind prog w).is x e.key) = kids.findIdx? fun k => decide (k.1 = x) := by
  unfold esOf
  rw [List.findIdx?_toArray, List.findIdx?_map]
  exact congrArg (fun p => kids.findIdx? p) (funext fun k => is_ent (prog := prog) (w := w) k x)
theorem dget {d : Addr} {o : Obj} {kids : List Kid} {ep : Nat} {x : Str} {t : Tok} {Q : Option Value → Shared → Prop} (ho : s.heap.get? d = some o) (hd : o.data = .dict (esOf w kids) ep)
    (h : Q (kfind kids x) { s with toks := s.toks + 1 }) : wpAny (model prog w) A (dictGet d (.str x t)) Q E s := by
  have hkey := strKind_is prog w x t
  rw [← findBy_es (prog := prog) (w := w)] at h
  unfold dictGet
  try with_reducible refine wpAny_holding ?_
  refine wpAny_bind ((strKind prog w).pyHash hkey (wpAny_bind (wpAny_dictFind_of (s := { s with toks := s.toks + 1 }) hkey ho hd (keysOf_es kids) ?_)))
  rw [findBy_of_findIdx?] at h
  cases hi : (esOf w kids).findIdx? fun e => (strKind prog w).is x e.key with
  | none => rw [hi] at h; exact wpAny_pure h
  | some i => rw [hi] at h; exact wpAny_bind (wpAny_dictEntries (s := { s with toks := s.toks + 1 }) ho hd (wpAny_pure h))
theorem esOf_push (kids : List Kid) (k : Kid) : (esOf w kids).push (entOf w k) = esOf w (kids ++ [k]) := by
  unfold esOf; simp
/-- what setdefault does where the key is not there -/
theorem dsetdef {d : Addr} {C : Value} {dx : Option Addr} {sl : Array (Option Value)} {kids : List Kid} {ep : Nat} {x : Str} {t : Tok} {v : Value} {Q : Value → Shared → Prop}
    (ho : s.heap.get? d = some { cls := C, dict := dx, data := .dict (esOf w kids) ep, slots := sl }) (hn : kfind kids x = none) (hz : kids.length ≤ sizeLine)
    (h : ∀ h', Heap.SameBut d s.heap h' → h'.get? d = some { cls := C, dict := dx, data := .dict (esOf w (kids ++ [(x, t, v)])) (ep + 1), slots := sl } → Q v { s with heap := h', toks := s.toks + 1 }) :
    wpAny (model prog w) A (dictSetDefault d (.str x t) v) Q E s := by
  have hkey := strKind_is prog w x t
  have hnone : ((esOf w kids).findIdx? fun e => (strKind prog w).is x e.key) = none := by
    rw [idx_es]
    rw [List.findIdx?_eq_none_iff]
    intro k hk
    unfold kfind at hn
    rw [Option.map_eq_none_iff, List.find?_eq_none] at hn
    simpa using hn k hk
  unfold dictSetDefault
  try with_reducible refine wpAny_holding ?_
  refine wpAny_bind ((strKind prog w).pyHash hkey ?_)
  refine wpAny_bind (wpAny_dictFind_of (s := { s with toks := s.toks + 1 }) hkey ho rfl (keysOf_es kids) ?_)
  rw [hnone]
  refine wpAny_bind (wpAny_rule (wpAny_bind (wpAny_updateDictKeys (hz := by unfold esOf; simpa using hz) (s := { s with toks := s.toks + 1 }) ho rfl (wpAny_pure (h _ (Heap.SameBut.update ..) ?_)))))
  rw [Heap.get?_update_self _ ho rfl]
  show some (Obj.mapDictKeys _ _) = _
  rw [← esOf_push]
  rfl
end
end
section
set_option maxHeartbeats 400000
noncomputable abbrev foldObj (w : World) (C : Addr) (dx : Addr) (f : Addr) (kids : List Kid) (n : Nat) : Obj := { cls := .ref C, dict := some dx, data := .dict (esOf w kids) n, slots := #[some (.ref f)] }
noncomputable abbrev bag0 : Obj := { cls := .type "dict", data := .dict #[] }
theorem en_miss : entryFor table "collections.defaultdict.__missing__" = some Builtin.«collections.defaultdict.__missing__» := entryFor_of_tree (by kernel_rfl)
theorem pl_miss : plainId "collections.defaultdict.__missing__" = true := by decide +kernel
theorem en_setdef : entryFor table "dict.setdefault" = some Builtin.«dict.setdefault» := entryFor_of_tree (by kernel_rfl)
section
variable {prog : Program} {w : World} {A : Around} {E : Value → Shared → Prop}
theorem code_setdef {s : Shared} {C x dx f : Addr} {kids : List Kid} {n : Nat} {y : Str} {t : Tok} {v : Value} {R : Result → Shared → Prop}
    (hx : s.heap.get? x = some (foldObj w C dx f kids n)) (hsub : Looks (model prog w) s.heap (isSubtype (.ref C) (.type "collections.OrderedDict")) false) (hxs : (x == sysModules) = false)
    (hn : kfind kids y = none) (hz : kids.length ≤ sizeLine)
    (h : ∀ h', Heap.SameBut x s.heap h' → h'.get? x = some (foldObj w C dx f (kids ++ [(y, t, v)]) (n + 1)) → R (.ok (.ret v)) { s with heap := h', toks := s.toks + 1 }) :
    codeAny (model prog w) A (.builtin "dict.setdefault" ⟨[.ref x, .str y t, v], []⟩) R s := by
  refine codeAny_builtin en_setdef ?_
  unfold Builtin.«dict.setdefault» Builtin.Dict.keyAndDefault
  obtain ⟨hp, g, d, tk, os⟩ := s
  repeat (any_goals (first | assumption | (with_reducible refine dsetdef hx hn hz ?_) | (with_reducible refine wpAny_loadPart_at hx ?_) | refine hsub.at ?_ | wp_step))
  exact fun h' hs hx' => wpAny_pure (h h' hs hx')
theorem callBorrowed_eq (f : Value) (pos : List Value) : callBorrowed f pos = (call f pos).keep [borrowed] := by
  unfold callBorrowed call runValue run
  show _ = Sem.call _ _ _ _ _
  congr 1
  funext r
  rcases r with e | f
  · rfl
  · cases f <;> rfl
theorem callBorrowed_of {M : Model} {s : Shared} {f : Value} {pos : List Value} {Q : Value → Shared → Prop} (h : wpAny M A (call f pos) Q E s) : wpAny M A (callBorrowed f pos) Q E s := by
  rw [callBorrowed_eq]; exact wpAny_keep h
theorem code_defmiss {s : Shared} {C x dx f : Addr} {of : Obj} {fd : FuncData} {kids : List Kid} {n : Nat} {y : Str} {t : Tok} {R : Result → Shared → Prop}
    (hx : s.heap.get? x = some (foldObj w C dx f kids n)) (hf : s.heap.get? f = some of) (hfd : of.data = .func fd) (hxs : (x == sysModules) = false)
    (hn : kfind kids y = none) (hz : kids.length ≤ sizeLine)
    (h : wpAny (model prog w) A.in1 (call (.ref f) []) (fun v s₁ =>
      s₁.heap.get? x = some (foldObj w C dx f kids n) ∧ Looks (model prog w) s₁.heap (isSubtype (.ref C) (.type "collections.OrderedDict")) false ∧
      ∀ h', Heap.SameBut x s₁.heap h' → h'.get? x = some (foldObj w C dx f (kids ++ [(y, t, v)]) (n + 1)) → R (.ok (.ret v)) { s₁ with heap := h', toks := s₁.toks + 1 })
      (fun e s' => R (.error e) s') s) :
    codeAny (model prog w) A (.builtin "collections.defaultdict.__missing__" ⟨[.ref x, .str y t], []⟩) R s := by
  refine codeAny_builtin en_miss ?_
  rw [Around.under_plainId pl_miss]
  unfold Builtin.«collections.defaultdict.__missing__» Builtin.Collections_defaultdict.factory?
  obtain ⟨hp, g, d, tk, os⟩ := s
  refine wpAny_bind (wpAny_of_eq (a := (.ref x, .str y t)) (by first | rfl | kernel_rfl) ?_)
  dsimp only
  refine wpAny_bind ?_
  unfold slotAt
  refine wpAny_bind (wpAny_bind (wpAny_loadPart_at hx ?_))
  refine wpAny_pure ?_
  dsimp only
  refine wpAny_pure ?_
  show wpAny _ _ (callOutOfASlot (.ref f) [] >>= _) _ _ _
  unfold callOutOfASlot borrowsExactly
  refine wpAny_bind (wpAny_bind (wpAny_bind (wpAny_load hf ?_)))
  rw [hfd]
  refine wpAny_pure ?_
  rw [if_pos rfl]
  refine callBorrowed_of (wpAny_mono h (fun v s₁ h₁ => ?_) fun _ _ z => z)
  obtain ⟨a1, a2, a3⟩ := h₁
  refine wpAny_pure ⟨Code.quiet_builtin _ (by decide +kernel), code_setdef a1 a2 hxs hn hz a3⟩
end
end
section
set_option maxHeartbeats 400000
theorem sig_miss : Manifest.signature? "collections.defaultdict.__missing__" = some ⟨.oneArg, "defaultdict.__missing__", "__missing__", .self, [⟨"object", .posOnly, true⟩]⟩ := by kernel_rfl
theorem var_miss : Manifest.varargsMethods.contains "collections.defaultdict.__missing__" = false := by decide +kernel
section
variable {prog : Program} {w : World} {A : Around} {E : Value → Shared → Prop}
theorem call_bm {s : Shared} {b C x dx f : Addr} {of oC : Obj} {cd : ClassData} {fd : FuncData} {kids : List Kid} {n : Nat} {y : Str} {t : Tok} {Q : Value → Shared → Prop}
    (hb : s.heap.get? b = some (boundMiss x)) (hm : Looks (model prog w) s.heap (isSubtype (.ref C) (.type "module")) false)
    (hC : s.heap.get? C = some oC) (hcd : oC.data = .cls cd) (hct : oC.cls = .type "type") (hq : cd.qualname = "FreezableDefaultDict")
    (hx : s.heap.get? x = some (foldObj w C dx f kids n)) (hf : s.heap.get? f = some of) (hfd : of.data = .func fd) (hxs : (x == sysModules) = false)
    (hn : kfind kids y = none) (hz : kids.length ≤ sizeLine)
    (h : wpAny (model prog w) A.in1 (call (.ref f) []) (fun v s₁ =>
      s₁.heap.get? x = some (foldObj w C dx f kids n) ∧ Looks (model prog w) s₁.heap (isSubtype (.ref C) (.type "collections.OrderedDict")) false ∧
      ∀ h', Heap.SameBut x s₁.heap h' → h'.get? x = some (foldObj w C dx f (kids ++ [(y, t, v)]) (n + 1)) → Q v { s₁ with heap := h', toks := s₁.toks + 1 }) E s) :
    wpAny (model prog w) A (call (.ref b) [.str y t]) Q E s := by
  obtain ⟨hp, g, d, tk, os⟩ := s
  have hTC : (⟨hp, g, d, tk, os⟩ : Shared).TypeIs (.ref C) "type" := ⟨_, hC, hct⟩
  have hLx : Looks (model prog w) hp (typeOf (.ref x)) (.ref C) := (Looks.ld hx).andThen .now
  refine wpAny_call (codeAny_of_tree ?_)
  show wpAny _ _ (callAny (.ref b) _) _ _ _
  unfold callAny
  refine wpAny_bind (wpAny_load hb ?_)
  dsimp only
  simp only [show (Value.type "builtin_function_or_method" == Value.type "method" || Value.type "builtin_function_or_method" == Value.type "builtin_function_or_method" || Value.type "builtin_function_or_method" == Value.type "method-wrapper") = true by decide, show (Value.type "builtin_function_or_method" != Value.type "method") = true by decide, if_true]
  show wpAny _ _ (checkBoundCall "collections.defaultdict.__missing__" ⟨[.ref x, .str y t], []⟩ >>= _) _ _ _
  refine wpAny_bind ?_
  unfold checkBoundCall
  simp only [sig_miss, kind_miss, var_miss]
  repeat (any_goals (first | assumption | (with_reducible refine wpAny_loadPart_at hx ?_) | (with_reducible refine wpAny_loadPart_at hC ?_) | refine hLx.at ?_ | refine hm.at ?_ | wp_step))
  rw [hcd]
  refine wpAny_pure ?_
  refine wpAny_bind (wpAny_typeOf hTC ?_)
  rw [if_pos (by decide), hq]
  refine wpAny_of_eq (a := ()) (by kernel_rfl) ?_
  refine wpAny_pure ⟨Code.quiet_builtin _ (by decide +kernel), ?_⟩
  exact code_defmiss hx hf hfd hxs hn hz h
end
end
section
set_option maxHeartbeats 400000
/-- a call seen from a smaller ground -/
structure Under (g h : Heap) (news : List (Addr × Obj)) : Prop where
  kg : Keeps g h
  sz : g.objs.size ≤ h.objs.size
  at_ : ∀ p ∈ news, h.get? p.1 = some p.2 ∧ g.get? p.1 = none
theorem enterG {prog : Program} {w : World} {A : Around} {s : Shared} {K : Frag} {Q E : Value → Shared → Prop} {g : Heap} {news : List (Addr × Obj)}
    {p : Program} {loose : List Str} {mg mb : Str → Option Value}
    {name qual : Str} {params : Arguments} {body : List Stmt} {scope : Scope} {dV kV doc pm cdv ct oc : Value} {an od : Option Addr} {osl : Array (Option Value)} {f : Addr} {pos : List Value} {kw : List (Str × Value)} (binds : List (Str × Value))
    (X : K.In g) (T : TopRead p loose mg mb g) (U : Under g s.heap news)
    (ho : K.lookup f = some ⟨oc, od, .func (fnOf name qual params body scope dV kV doc pm an cdv ct), osl⟩) (hcd : codeIn K cdv qual = true) (hroom : A.depth < recursionLimit)
    (hbind : BindsTo s (fnOf name qual params body scope dV kV doc pm an cdv ct) ⟨pos, kw⟩ binds) (hloc : ∀ y ∈ binds, scope.names.lookup y.1 = some .local)
    (h : ∀ L' h₁, Fr g L' h₁ (fun y => binds.reverse.lookup y) → News g L' h₁ news →
      wpAny (model prog w) (A.deeper (envOf qual scope L' f cdv)) (execs body (envOf qual scope L' f cdv))
        (fun fl s' => Q (match fl with | .ret v => v | _ => .none) s')
        (fun _ _ => False)
        { s with heap := h₁, toks := s.toks + binds.length })
    (hco : scope.isCoroutine = false) (hgen : scope.isGenerator = false) (hk : scope.kind = .function)
    (hcell : ∀ x ∈ scope.names, x.2 ≠ .cell) : wpAny (model prog w) A (PySem.call (.ref f) pos kw) Q E s := by
  refine enter binds (X.keeps U.kg) (T.keeps U.kg) ho hcd hroom hbind hloc (fun L' h₁ F N => h L' h₁ ⟨F.ns, fun b o e => F.keep b o (U.kg b o e), Nat.le_trans U.sz F.above⟩ fun p hp => ⟨F.keep _ _ (U.at_ p hp).1, ?_, (U.at_ p hp).2⟩) hco hgen hk hcell
  exact Nat.ne_of_lt (Nat.lt_of_lt_of_le (Heap.lt_size (U.at_ p hp).1) F.above)
end
section
set_option maxHeartbeats 400000
noncomputable abbrev wpT {α : Type} := @PySem.wpAt α
section
variable {M : Model} {A : Around} {c : Code} {E : Value → Shared → Prop} {s : Shared} {env : Env}
theorem at_Call {F : Expr} {args : List Expr} {pos : Pos} {Q : Value → Shared → Prop} (h : wpT M A c (eval F env) (fun f s₁ => wpT M A c (callWith pos f [] (backTo pos (starEach args env)) []) Q E s₁) E s)
    (he : eval (.Call F args [] pos) env = (eval F env >>= fun f => callWith pos f [] (backTo pos (starEach args env)) []) := by rfl) : wpT M A c (eval (.Call F args [] pos) env) Q E s := by
  rw [he]; exact PySem.wpAt_bind h
theorem at_spliced_cons {x : Sem Value} {rest : List (Bool × Sem Value)} {Q : List Value → Shared → Prop}
    (h : wpT M A c x (fun v s₁ => wpT M A c (spliced rest) (fun vs s₂ => Q (v :: vs) s₂) E s₁) E s) : wpT M A c (spliced ((false, x) :: rest)) Q E s := by
  rw [spliced]
  refine PySem.wpAt_bind (PySem.wpAt_mono h (fun v s₁ h₁ => ?_) fun _ _ x => x)
  simp only [Bool.false_eq_true, if_false]
  exact PySem.wpAt_bind (wpAt_of_wpAny (wpAny_pure (PySem.wpAt_bind (ks_wpAt_holding (PySem.wpAt_mono h₁ (fun vs s₂ h₂ => wpAt_of_wpAny (wpAny_pure h₂)) fun _ _ x => x)))))
theorem at_evalArgs_plain {f : Value} {x : Sem Value} {rest : List (Bool × Sem Value)} {Q : Args → Shared → Prop}
    (h : wpT M A c (spliced ((false, x) :: rest)) (fun vs s' => Q ⟨vs, []⟩ s') E s) : wpT M A c (evalArgs f true ((false, x) :: rest) []) Q E s := by
  unfold evalArgs
  show wpT M A c (spliced ((false, x) :: rest) >>= _) Q E s
  refine PySem.wpAt_bind (PySem.wpAt_mono h (fun vs s' h' => ?_) fun _ _ x => x)
  refine wpAt_of_wpAny (wpAny_holding ?_)
  exact wpAny_bind (wpAny_pure (wpAny_bind (wpAny_pure (wpAny_pure h'))))
theorem at_callWith_builtin {pos : Pos} {id : String} {first : List Value} {args : List (Bool × Sem Value)} {Q : Value → Shared → Prop} (hplain : args.any (·.1) = false)
    (h : wpT M A c (evalArgs (.builtin id) true args []) (fun a s₁ => wpAny M A (call (.builtin id) (first ++ a.pos) a.kw) Q E s₁) E s) :
    wpT M A c (callWith pos (.builtin id) first args []) Q E s := by
  unfold callWith
  refine PySem.wpAt_bind (ks_wpAt_holding (PySem.wpAt_mono h (fun a s₁ h₁ => wpAt_of_wpAny (wpAny_bind (wpAny_standAt ?_))) fun _ _ x => x))
  simp only [hplain, List.any_nil, Bool.or_false]
  refine wpAny_bind (wpAny_pure ?_)
  exact wpAny_bind (wpAny_mono h₁ (fun r s₂ hr => wpAny_bind (wpAny_holding (wpAny_point (wpAny_pure hr)))) fun _ _ x => x)
theorem at_Attribute {value : Expr} {attr : Str} {pos : Pos} {Q : Value → Shared → Prop}
    (h : wpT M A c (attributeBase value attr env (eval value env)) (fun o s₁ => wpAny M A (getAttr o attr true) (fun r s₂ => wpAny M A (letTemporaryGo value o r) (fun _ s₃ => Q r s₃) E s₂) E s₁) E s)
    (he : eval (.Attribute value attr pos) env = (do
      let o ← attributeBase value attr env (eval value env)
      standAt pos.atName
      let r ← holding [o] (getAttr o attr true)
      letTemporaryGo value o r
      pure r) := by rfl) : wpT M A c (eval (.Attribute value attr pos) env) Q E s := by
  rw [he]
  exact PySem.wpAt_bind (PySem.wpAt_mono h (fun o s₁ h₁ => wpAt_of_wpAny (wpAny_bind (wpAny_standAt (wpAny_bind (wpAny_holding (wpAny_mono h₁ (fun r s₂ h₂ => wpAny_bind (wpAny_mono h₂ (fun _ s₃ h₃ => wpAny_pure h₃) fun _ _ x => x)) fun _ _ x => x)))))) fun _ _ x => x)
end
section
variable {prog : Program} {w : World} {A : Around} {E : Value → Shared → Prop} {s : Shared}
theorem lg_entry : entryFor table "proto.let_go" = some Builtin.«proto.let_go» := entryFor_of_tree (by kernel_rfl)
theorem let_go {v : Expr} {o r : Addr} {Q : Unit → Shared → Prop} (hv : ∀ x p, v ≠ .Name x p) (h : Q () s) : wpAny (model prog w) A (letTemporaryGo v (.ref o) (.ref r)) Q E s := by
  have e : letTemporaryGo v (.ref o) (.ref r) = (do let _ ← holding [.ref r] (runValue (.builtin "proto.let_go" {}))) := by
    cases v <;> first | rfl | exact absurd rfl (hv _ _)
  rw [e]
  refine wpAny_bind (wpAny_holding (wpAny_runValue (codeAny_builtin lg_entry ?_)))
  exact wpAny_pure (wpAny_pure h)

theorem enterAt {K : Frag} {Q E : Value → Shared → Prop} {g : Heap} {news : List (Addr × Obj)}
    {p : Program} {loose : List Str} {mg mb : Str → Option Value}
    {name qual : Str} {params : Arguments} {body : List Stmt} {scope : Scope} {dV kV doc pm cdv ct oc : Value} {an od : Option Addr} {osl : Array (Option Value)} {f cc : Addr} {pos : List Value} {kw : List (Str × Value)} (binds : List (Str × Value))
    (X : K.In g) (T : TopRead p loose mg mb g) (U : Under g s.heap news)
    (ho : K.lookup f = some ⟨oc, od, .func (ksFn name qual params body scope dV kV doc pm an cdv ct cc), osl⟩) (hcd : codeIn K cdv qual = true) (hroom : A.depth < recursionLimit)
    (hbind : BindsTo s (ksFn name qual params body scope dV kV doc pm an cdv ct cc) ⟨pos, kw⟩ binds) (hloc : ∀ y ∈ binds, scope.names.lookup y.1 = some .local)
    (h : ∀ L' h₁, Fr g L' h₁ (fun y => binds.reverse.lookup y) → News g L' h₁ news → (∀ b o, s.heap.get? b = some o → h₁.get? b = some o) →
      wpT (model prog w) (A.deeper (ksEnv qual scope L' f cdv cc)) (.func body (ksEnv qual scope L' f cdv cc)) (execs body (ksEnv qual scope L' f cdv cc))
        (fun fl s' => Q (match fl with | .ret v => v | _ => .none) s')
        (fun _ _ => False)
        { s with heap := h₁, toks := s.toks + binds.length })
    (hco : scope.isCoroutine = false) (hgen : scope.isGenerator = false) (hk : scope.kind = .function)
    (hcell : ∀ x ∈ scope.names, x.2 ≠ .cell) : wpAny (model prog w) A (PySem.call (.ref f) pos kw) Q E s := by
  refine wpAny_call ?_
  refine ks_codeAny_call_defAt (fd := ksFn name qual params body scope dV kV doc pm an cdv ct cc) (body := body) (binds := binds) hroom ((X.keeps U.kg) _ _ ho) rfl (T.nolimit.keeps U.kg) (codeRec_of (X.keeps U.kg) hcd) rfl hbind hcell hloc (fun h₁ hns hk₁ => ?_) hco hgen hk
  refine ks_wpAt_mono (h s.heap.objs.size h₁ ⟨hns, fun b o e => hk₁ b o (U.kg b o e), U.sz⟩ (fun p hp => ⟨hk₁ _ _ (U.at_ p hp).1, ?_, (U.at_ p hp).2⟩) hk₁) (fun fl s' hl => hl) fun _ _ y => y.elim
  exact Nat.ne_of_lt (Heap.lt_size (U.at_ p hp).1)
end
section
variable {prog : Program} {w : World} {A : Around} {E : Value → Shared → Prop} {s : Shared} {K : Frag} {g : Heap} {L : Addr} {m mg mb : Str → Option Value} {news : List (Addr × Obj)} {p : Program} {loose : List Str}
/-- `super().attr` in a method, read through TopRead -/
theorem super_read {body : List Stmt} {q : Str} {scope : Scope} {p0 p1 : Pos} {attr : Str} {whole : Sem Value} {fd : FuncData} {ar : Arg} {vs : Array Value} {file : Str} {tf : Tok} {oc ccl cl : Value} {od cdd cld : Option Addr} {osl ccs csl : Array (Option Value)}
    {f x C D cda cc : Addr} {ox : Obj} {odx : Option Obj} {cdD : ClassData} {Q : Value → Shared → Prop}
    (F : Fr g L s.heap m) (X₀ : K.In g) (N : News g L s.heap news) (T : TopRead p loose mg mb g)
    (hf : K.lookup f = some ⟨oc, od, .func fd, osl⟩) (hp : (fd.params.posonlyargs ++ fd.params.args).head? = some ar) (hv : m ar.arg = some (.ref x)) (I : InstAt s.heap x ox C odx)
    (hcode : K.lookup cda = some ⟨ccl, cdd, .fields vs, ccs⟩) (hvs : vs[2]? = some (.str file tf)) (hfile : ((prog.main.file : Str) == file) = true)
    (hcell : K.lookup cc = some ⟨cl, cld, .cell (some (.ref D)), csl⟩) (hD : clsIn K D = some cdD) (hsub : mroIn K C (.ref D) = some true) (hsuper : nsIn K mainGlobals "super" = some none)
    (hat : (attr == ("__class__" : Str)) = false) (hks : scope.names.lookup ("super" : Str) = some .globalImplicit) (hkc : scope.names.lookup ("__class__" : Str) = some .free) (hka : scope.names.lookup ar.arg = some .local) (hk : scope.kind = .function)
    (htop : (prog.main.scope.names.lookup ("super" : Str)).isSome = false) (hboot : bootBuiltins "super" = some (.type "super"))
    (h : ∀ so h', Fr g L h' m → News g L h' ((so, ks_superObj D x C) :: news) → (∀ b o, s.heap.get? b = some o → h'.get? b = some o) → Q (.ref so) { s with heap := h' }) :
    wpT (model prog w) A (.func body (ksEnv q scope L f (.ref cda) cc)) (attributeBase (.Call (.Name "super" p0) [] [] p1) attr (ksEnv q scope L f (.ref cda) cc) whole) Q E s := by
  have X : K.In s.heap := X₀.keeps F.keep
  obtain ⟨hh, gg, d, t, os⟩ := s
  obtain ⟨oD, hD1, hD2⟩ : ∃ oD, hh.get? D = some oD ∧ oD.data = .cls cdD := by
    unfold clsIn at hD
    split at hD
    · rename_i c d cd' sl ho
      cases hD
      exact ⟨_, X _ _ ho, rfl⟩
    · cases hD
  have hno : ∀ c, ox.data ≠ .cls c := fun c e => by
    have hn := I.no
    unfold notCls at hn
    rw [e] at hn
    exact Bool.noConfusion hn
  refine ks_wpAt_super_base (env := ksEnv q scope L f (.ref cda) cc) hks hkc hat rfl (X _ _ hf) rfl hp rfl (X _ _ hcode) rfl hvs hfile htop ?_
  refine ks_loadName_global hk hks (loadGlobal_builtin (env := ksEnv q scope L f (.ref cda) cc) (T.g.keeps F.keep) (mg_none_of X₀ T.g hsuper) (T.b.keeps F.keep) ((T.builtins _ (by decide +kernel)).trans hboot) ⟨rfl, ?_⟩)
  refine wpAny_loadName_free hk hkc rfl ⟨_, X _ _ hcell, rfl⟩ (wpAny_loadName_local hk hka F.ns hv (ks_wpAny_isType_cls hD1 hD2 ⟨rfl, ?_⟩))
  refine ks_wpAny_call_super hD1 hD2 I.at_ I.cls hno (looks_mroIn X hsub) (fun h' e k => ?_)
  have n := ks_newsPush (s := ⟨hh, gg, d, t, os⟩) F N rfl e k
  exact h _ _ n.1 n.2.1 k
theorem at_val {α : Type} {t : Sem α} {c : Code} {M : Model} {Q : α → Shared → Prop} {a : α} {s' : Shared} (h : wpAny M A t (fun v s₁ => v = a ∧ s₁ = s') (fun _ _ => False) s) (k : Q a s') : wpT M A c t Q E s :=
  PySem.wpAt_mono (wpAt_of_wpAny h) (fun v s₁ e => by rw [e.1, e.2]; exact k) fun _ _ e => e.elim
theorem callWith_bm {M : Model} {pos : Pos} {u x : Addr} {first : List Value} {args : List (Bool × Sem Value)} {Q : Value → Shared → Prop} (hplain : args.any (·.1) = false)
    (h : wpAny M A (evalArgs (.ref u) true args []) (fun x' s₁ => s₁.heap.get? u = some (boundMiss x) ∧ wpAny M A (call (.ref u) (first ++ x'.pos) x'.kw) Q E s₁) E s) : wpAny M A (callWith pos (.ref u) first args []) Q E s := by
  unfold callWith
  refine wpAny_bind (wpAny_holding (wpAny_mono h (fun x s₁ h₁ => wpAny_bind (wpAny_standAt ?_)) fun _ _ x => x))
  obtain ⟨ho, hcall⟩ := h₁
  simp only [hplain, List.any_nil, Bool.or_false]
  refine wpAny_bind (m := keeperOf (.ref u)) ?_
  unfold keeperOf
  refine wpAny_bind (wpAny_load ho ?_)
  simp only [show (Value.type "builtin_function_or_method" != Value.type "method") = true by decide, show (Value.type "builtin_function_or_method" == Value.type "builtin_function_or_method" || Value.type "builtin_function_or_method" == Value.type "method-wrapper") = true by decide, if_true]
  refine wpAny_pure ?_
  exact wpAny_bind (wpAny_mono hcall (fun r s₂ hr => wpAny_bind (wpAny_holding (wpAny_point (wpAny_pure hr)))) fun _ _ x => x)
end
end
section
/-- the class in the written heap -/
theorem fd_cls {P : Params} : ∃ oC cd, (K1 P).lookup 65 = some oC ∧ oC.data = .cls cd ∧ oC.cls = .type "type" ∧ cd.qualname = Str.ofString "FreezableDefaultDict" ∧ cd.name = Str.ofString "FreezableDefaultDict" := ⟨_, _, rfl, rfl, rfl, rfl, rfl⟩

theorem missing_ct : ∀ {w : World} {dp un : Nat} {fr : Option (List Env)} {gd : Option (List Code)} {s : Shared} {Q E : Value → Shared → Prop} {x dx f : Addr} {of : Obj} {fd : FuncData} {kids : List Kid} {n : Nat} {y : Str} {t : Tok}
   {p loose mg mb} {g : Heap} {R : Value → Heap → Heap → Prop}
   (X : (K1 w.params).In g) (T : TopRead p loose mg mb g) (U : Under g s.heap [(x, foldObj w 65 dx f kids n), (dx, bag0)]) (hdp : dp + 15 < 1000) (hu : un + 60 < 9900)
   (hf : g.get? f = some of) (hfd : of.data = .func fd) (hxs : (x == sysModules) = false)
   (hn : kfind kids y = none) (hz : kids.length ≤ 1000)
   (hcall : ∀ fr' h₀ tk₀, (∀ b o, s.heap.get? b = some o → h₀.get? b = some o) → g.objs.size ≤ h₀.objs.size →
      wpAny (model PySem.Challenge.rw_il0142_01.row.prog w) (Ar (dp + 1) (un + 4) fr' gd) (call (.ref f) []) (fun v s₁ => ∃ h₁ tk₁, s₁ = { s with heap := h₁, toks := tk₁ } ∧ (∀ b o, h₀.get? b = some o → h₁.get? b = some o) ∧ R v h₀ h₁) (fun _ _ => False) { s with heap := h₀, toks := tk₀ })
   (hQ : ∀ v h₀ h₁ h' tk, (∀ b o, s.heap.get? b = some o → h₀.get? b = some o) → (∀ b o, h₀.get? b = some o → h₁.get? b = some o) → g.objs.size ≤ h₀.objs.size → R v h₀ h₁ → Heap.SameBut x h₁ h' →
      h'.get? x = some (foldObj w 65 dx f (kids ++ [(y, t, v)]) (n + 1)) → Q v { s with heap := h', toks := tk })
   , wpAny (model PySem.Challenge.rw_il0142_01.row.prog w) (Ar dp un fr gd) (call (.ref 55) [.ref x, .str y t]) Q E s := by
  k_fill
  intro w dp un fr gd s Q E x dx f of fd kids n y t p loose mg mb g R X T U hdp hu hf hfd hxs hn hz hcall hQ
  refine' enterAt [(Str.ofString "self", .ref x), (Str.ofString "key", .str y t)] ?X ?T ?U ?ho ?hcd ?hroom ?hbind ?hloc ?_ ?hco ?hgen ?hk ?hcell
  case X => assumption
  case T => assumption
  case U => assumption
  case ho => k_is
  case hcd => k_is
  case hroom => exact roomE (by assumption)
  case hbind => exact BindsTo.of_eq rfl
  case hloc => exact locs rfl
  case hco => exact rfl
  case hgen => exact rfl
  case hk => exact rfl
  case hcell => decide
  intro L' h₁ F' N' k₁
  try dsimp only
  refine ks_wpAt_execs_cons (ks_wpAt_Return_some ?_)
  refine at_Call ?_
  refine at_Call ?_
  refine at_val (a := .builtin "getattr") (s' := { s with heap := h₁, toks := s.toks + 2 }) (by k_steps) ?_
  refine at_callWith_builtin rfl ?_
  simp only [starEach, backTo, List.map_cons, List.map_nil, Bool.false_eq_true, if_false]
  refine at_evalArgs_plain (at_spliced_cons ?_)
  refine at_val (a := .ref x) (s' := { s with heap := h₁, toks := s.toks + 2 }) (by k_steps) ?_
  refine at_spliced_cons ?_
  refine at_val (a := .str "_frozen" (s.toks + 2)) (s' := { s with heap := h₁, toks := s.toks + 2 + 1 }) (by k_steps) ?_
  refine at_spliced_cons ?_
  refine at_Attribute ?_
  have I1 : InstAt h₁ x (foldObj w 65 dx f kids n) 65 (some bag0) := ⟨(N' _ (.head _)).1, rfl, rfl, (N' _ (.tail _ (.head _))).1⟩
  refine super_read (s := { s with heap := h₁, toks := s.toks + 2 + 1 }) F' X N' T (by k_is) (by rfl) (by rfl) I1 (by k_is) (by rfl) (by first | rfl | decide +kernel) (by k_is) (by k_is) (by k_is) (by k_is) (by decide) (by rfl) (by rfl) (by rfl) (by rfl) (by decide +kernel) (by first | boot_by_name | rfl) (fun so h₂ F₂ N₂ k₂ => ?_)
  have X2 : (K1 w.params).In h₂ := X.keeps F₂.keep
  have I2 : InstAt h₂ x (foldObj w 65 dx f kids n) 65 (some bag0) := ⟨k₂ _ _ I1.at_, rfl, rfl, k₂ _ _ I1.dict⟩
  have hx65 : x ≠ 65 := fun e => by
    have := (N' _ (.head _)).2.2
    rw [show (x, foldObj w 65 dx f kids n).1 = x from rfl, e] at this
    obtain ⟨oC, cd, e1, _⟩ := fd_cls (P := w.params)
    rw [X _ _ e1] at this
    cases this
  have LC : ∀ h, (K1 w.params).In h → Looks (model PySem.Challenge.rw_il0142_01.row.prog w) h (mroOf (.ref 65)) (.ref 65 :: bmD) := fun h Xh => by
    have hc : ∃ cd, clsIn (K1 w.params) 65 = some cd ∧ cd.mro = .ref 65 :: bmD := ⟨_, by k_is, rfl⟩
    obtain ⟨cd, hc, hm⟩ := hc
    rw [← hm]
    exact fun A Q E s k q => wpAny_bind ((looks_clsIn Xh hc) A _ E s k (wpAny_pure q))
  refine attr_super_miss (N₂ _ (.head _)).1 (looks_opaque X2 (by k_is)) (LC _ X2) I2.at_ rfl (looks_mroIn X2 (by k_is)) hx65 ?_
  refine let_go (fun _ _ e => by cases e) ?_
  refine wpAt_of_wpAny (Calls.spliced_nil ?_)
  have k₃ : ∀ b o, h₂.get? b = some o → (h₂.push (boundMiss x)).get? b = some o := fun b o e => Heap.get?_push_of_some _ e
  have hb₃ : (h₂.push (boundMiss x)).get? h₂.objs.size = some (boundMiss x) := Heap.get?_push_size _ rfl
  generalize h₂.push (boundMiss x) = h₃ at k₃ hb₃ ⊢
  generalize h₂.objs.size = b at hb₃ ⊢
  have X3 : (K1 w.params).In h₃ := X2.keeps k₃
  have I3 : InstAt h₃ x (foldObj w 65 dx f kids n) 65 (some bag0) := ⟨k₃ _ _ I2.at_, rfl, rfl, k₃ _ _ I2.dict⟩
  obtain ⟨oC, cd, e1, e2, e3, e4, e5⟩ := fd_cls (P := w.params)
  refine getattr_missing rfl X3 I3 (by k_is) (by k_is) (by k_is) (X3 _ _ e1) e2 e5 (by k_is) (by first | rfl | kernel_rfl) (fun h₄ tk₄ k₄ => ?_)
  have X4 := X3.keeps k₄
  have F₄ : Fr g L' h₄ _ := Fr.keeps F₂ (fun b o e => k₄ _ _ (k₃ _ _ e))
  refine wpAt_of_wpAny (callWith_bm (x := x) rfl ?_)
  simp only [starEach, backTo, List.map_cons, List.map_nil, Bool.false_eq_true, if_false]
  refine Calls.evalArgs_plain (Calls.spliced_cons ?_)
  refine PySem.wpAny_mono (Q := fun v s₁ => v = .str y t ∧ s₁ = { s with heap := h₄, toks := tk₄ }) (E := fun _ _ => False) (by k_steps) (fun v s₁ e => ?_) (fun _ _ e => e.elim)
  obtain ⟨rfl, rfl⟩ := e
  refine Calls.spliced_nil ?_
  refine ⟨k₄ _ _ hb₃, ?_⟩
  have kk : ∀ b o, s.heap.get? b = some o → h₄.get? b = some o := fun b o e => k₄ _ _ (k₃ _ _ (k₂ _ _ (k₁ _ _ e)))
  have I4 : InstAt h₄ x (foldObj w 65 dx f kids n) 65 (some bag0) := ⟨k₄ _ _ I3.at_, rfl, rfl, k₄ _ _ I3.dict⟩
  refine call_bm (s := { s with heap := h₄, toks := tk₄ }) (k₄ _ _ hb₃) (looks_mroIn X4 (by k_is)) (X4 _ _ e1) e2 e3 e4 I4.at_ (F₄.keep _ _ hf) hfd hxs hn (by rw [sizeLine_eq]; omega) ?_
  have hz4 : g.objs.size ≤ h₄.objs.size := Nat.le_of_lt (Nat.lt_of_le_of_lt F₄.above F₄.ns.lt)
  refine PySem.wpAny_mono (hcall _ h₄ tk₄ kk hz4) (fun v s₁ e => ?_) (fun _ _ e => e.elim)
  obtain ⟨h₅, tk₅, rfl, k₅, r⟩ := e
  exact ⟨k₅ _ _ I4.at_, looks_mroIn (X4.keeps k₅) (by k_is), fun h' hs hx' => hQ _ _ _ _ _ kk k₅ hz4 r hs hx'⟩
end
section
set_option maxHeartbeats 400000
section
variable {prog : Program} {w : World} {A : Around} {E : Value → Shared → Prop} {K : Frag} {x C : Addr} {ox : Obj} {od : Option Obj} {h : Heap} {g : Array GenState} {d : Drawn} {t : Nat} {os : OsState}
/-- a built-in of dict, called on an object of a subclass -/
theorem call_on {id owner n : String} {b : Builtin} {rest : List Value} {Q : Value → Shared → Prop} (I : InstAt h x ox C od) (hp : plainId id = true) (hb : entryFor table id = some b)
    (hk : builtinKind id = some .slot ∨ builtinKind id = some .method) (hs : splitId id = some (owner, n)) (ha : argsOk id ⟨.ref x :: rest, []⟩) (hsub : Looks (model prog w) h (isSubtype (.ref C) (.type owner)) true)
    (hq : wpAny (model prog w) A.in1 (b ⟨.ref x :: rest, []⟩) (fun fin s' => ∃ v, fin = .done (.ret v) ∧ Q v s') E ⟨h, g, d, t, os⟩) :
    wpAny (model prog w) A (call (.builtin id) (.ref x :: rest)) Q E ⟨h, g, d, t, os⟩ := by
  have L0 := I.type (M := model prog w)
  have hchk : ∀ {Q' : Unit → Shared → Prop} {E' : Value → Shared → Prop}, Q' () ⟨h, g, d, t, os⟩ → wpAny (model prog w) A.in1 (checkBuiltinCall id ⟨.ref x :: rest, []⟩) Q' E' ⟨h, g, d, t, os⟩ := fun {Q' E'} hq' => by
    have fin : wpAny (model prog w) A.in1 (match Manifest.signature? id with | some sig => Bind.checkArgs id sig ⟨.ref x :: rest, []⟩ | none => pure ()) Q' E' ⟨h, g, d, t, os⟩ := by
      cases hsig : Manifest.signature? id with
      | none => exact wpAny_pure hq'
      | some sig =>
        simp only [argsOk, hsig] at ha
        have h2 : Bind.checkArgs id sig ⟨.ref x :: rest, []⟩ = pure () := ha
        show wpAny (model prog w) A.in1 (Bind.checkArgs id sig ⟨.ref x :: rest, []⟩) Q' E' _
        rw [h2]; exact wpAny_pure hq'
    rcases hk with hk | hk
    all_goals
      simp only [checkBuiltinCall, hk, hs]
      refine wpAny_bind ?_
      unfold isInstance
      refine wpAny_bind (L0.at (hsub.at ?_))
      cases hsig : Manifest.signature? id with
      | none => exact wpAny_pure hq'
      | some sig =>
        rw [hsig] at fin
        exact fin
  refine wpAny_call (codeAny_call_builtin hp hb (hchk ?_))
  refine wpAny_mono hq (fun fin s' hf => ?_) fun _ _ z => z
  obtain ⟨v, rfl, hv⟩ := hf
  exact hv
theorem special_inst {name : Str} {r : Option Value} {Q : Option Value → Shared → Prop} (X : K.In h) (I : InstAt h x ox C od) (hf : findIn K (.ref C) name = some r) (hq : Q r ⟨h, g, d, t, os⟩) :
    wpAny (model prog w) A (specialOf (.ref x) name) Q E ⟨h, g, d, t, os⟩ := by
  have L0 := I.type (M := model prog w)
  have L1 := looks_findIn (M := model prog w) X hf
  unfold specialOf
  exact wpAny_bind (L0.at (L1.at hq))
theorem sp_getitem : splitId "dict.__getitem__" = some ("dict", "__getitem__") := by decide +kernel
theorem kd_getitem : builtinKind "dict.__getitem__" = some .method := by decide +kernel
theorem item_of {key : Value} {Q : Value → Shared → Prop} (X : K.In h) (I : InstAt h x ox C od) (hseq : Looks (model prog w) h (seqItemTypes.anyM fun n => isSubtype (.ref C) (.type n)) false)
    (hgi : findIn K (.ref C) "__getitem__" = some (some (.builtin "dict.__getitem__"))) (hsub : mroIn K C (.type "dict") = some true)
    (hq : wpAny (model prog w) A.in1 (Builtin.«dict.__getitem__» ⟨[.ref x, key], []⟩) (fun fin s' => ∃ v, fin = .done (.ret v) ∧ Q v s') E ⟨h, g, d, t, os⟩) :
    wpAny (model prog w) A (getItem (.ref x) key) Q E ⟨h, g, d, t, os⟩ := by
  have L0 := I.type (M := model prog w)
  have ha : argsOk "dict.__getitem__" ⟨.ref x :: [key], []⟩ := F.args_dict_getitem_2 _ _
  unfold getItem
  refine wpAny_holding (wpAny_bind ?_)
  unfold sequenceKey
  refine wpAny_bind (L0.at ?_)
  dsimp only
  refine wpAny_bind (hseq.at ?_)
  refine wpAny_pure (wpAny_bind ?_)
  unfold callSpecial?
  refine wpAny_bind (special_inst X I hgi ?_)
  refine wpAny_holding ?_
  refine wpAny_bind (wpAny_of_eq (F.slot_dict_getitem.bind _) ?_)
  refine wpAny_bind ?_
  refine call_on I F.slot_dict_getitem.plain F.entry_dict_getitem (.inr kd_getitem) sp_getitem ha (looks_mroIn X hsub) ?_
  refine wpAny_mono hq (fun fin s' hf => ?_) fun _ _ z => z
  obtain ⟨v, rfl, hv⟩ := hf
  exact ⟨v, rfl, wpAny_pure (wpAny_pure hv)⟩
end
section
variable {prog : Program} {w : World} {A : Around} {E : Value → Shared → Prop} {K : Frag} {x C : Addr} {od : Option Obj} {h : Heap} {g : Array GenState} {d : Drawn} {t : Nat} {os : OsState} {dx f : Addr} {kids : List Kid} {n : Nat} {y : Str} {tk : Tok}
theorem keyArg_ok {name : String} {M : Model} {s : Shared} {key : Value} {Q : Addr × Value → Shared → Prop} (hq : Q (x, key) s) : wpAny M A (Builtin.Dict.keyArg name ⟨[.ref x, key], []⟩) Q E s :=
  wpAny_of_eq (a := (x, key)) (by rfl) hq
theorem item_hit {v : Value} {Q : Value → Shared → Prop} (X : K.In h) (I : InstAt h x (foldObj w C dx f kids n) C od) (hseq : Looks (model prog w) h (seqItemTypes.anyM fun n => isSubtype (.ref C) (.type n)) false)
    (hgi : findIn K (.ref C) "__getitem__" = some (some (.builtin "dict.__getitem__"))) (hsub : mroIn K C (.type "dict") = some true)
    (hv : kfind kids y = some v) (hq : Q v ⟨h, g, d, t + 1, os⟩) :
    wpAny (model prog w) A (getItem (.ref x) (.str y tk)) Q E ⟨h, g, d, t, os⟩ := by
  refine item_of X I hseq hgi hsub ?_
  unfold Builtin.«dict.__getitem__»
  refine wpAny_bind (keyArg_ok ?_)
  dsimp only
  refine wpAny_bind (dget I.at_ rfl ?_)
  rw [hv]
  exact wpAny_pure ⟨_, rfl, hq⟩
theorem item_miss {fm : Addr} {om : Obj} {Q : Value → Shared → Prop} (X : K.In h) (I : InstAt h x (foldObj w C dx f kids n) C od) (hseq : Looks (model prog w) h (seqItemTypes.anyM fun n => isSubtype (.ref C) (.type n)) false)
    (hgi : findIn K (.ref C) "__getitem__" = some (some (.builtin "dict.__getitem__"))) (hsub : mroIn K C (.type "dict") = some true) (hxs : (x == sysModules) = false)
    (hm : findIn K (.ref C) "__missing__" = some (some (.ref fm))) (hfm : h.get? fm = some om) (hfc : om.cls = .type "function")
    (hv : kfind kids y = none) (hq : wpAny (model prog w) A.in1 (call (.ref fm) [.ref x, .str y tk]) (fun v s' => Q v s') E ⟨h, g, d, t + 1, os⟩) :
    wpAny (model prog w) A (getItem (.ref x) (.str y tk)) Q E ⟨h, g, d, t, os⟩ := by
  have L0 := I.type (M := model prog w)
  refine item_of X I hseq hgi hsub ?_
  unfold Builtin.«dict.__getitem__»
  refine wpAny_bind (keyArg_ok ?_)
  dsimp only
  refine wpAny_bind (dget I.at_ rfl ?_)
  rw [hv]
  dsimp only
  refine wpAny_bind (wpAny_missed_other hxs ?_)
  dsimp only
  refine wpAny_bind (L0.at ?_)
  rw [if_pos (show (Value.ref C != Value.type "dict") = true from rfl)]
  refine wpAny_bind ?_
  unfold callSpecial?
  refine wpAny_bind (special_inst X I hm ?_)
  refine wpAny_holding (wpAny_bind ?_)
  unfold bindSpecial
  refine wpAny_bind (wpAny_typeOf (T := "function") ⟨_, hfm, hfc⟩ ?_)
  rw [if_pos (by decide)]
  refine wpAny_pure (wpAny_bind (wpAny_mono hq (fun v s' hv' => ?_) fun _ _ z => z))
  refine wpAny_pure ?_
  dsimp only
  exact wpAny_bind (wpAny_rule (wpAny_pure ⟨_, rfl, hv'⟩))
theorem canon_ga : (Manifest.canonical "collections.defaultdict.__getattribute__" != "object.__getattribute__") = false := by decide +kernel
theorem get_method {ox : Obj} {bag : Obj} {name : Str} {id : String} {pl : Sem Bool} {Q : Value × List Value → Shared → Prop} (X : K.In h) (I : InstAt h x ox C (some bag)) (hdx : ox.dict = some dx) (hga : findIn K (.ref C) "__getattribute__" = some (some (.builtin "collections.defaultdict.__getattribute__")))
    (hk : findIn K (.ref C) "__getattr__" = some none) (hf : findIn K (.ref C) name = some (some (.builtin id))) (hty : typeOf (.builtin id) = pure (.type "method_descriptor")) (hb : lookIn name bag = some none)
    (hq : Q (.builtin id, [.ref x]) ⟨h, g, d, t, os⟩) : wpAny (model prog w) A (getMethod (.ref x) name pl) Q E ⟨h, g, d, t, os⟩ := by
  have hbag : h.get? dx = some bag := by have := I.dict; rw [hdx] at this; exact this
  unfold getMethod
  refine wpAny_bind (special_inst X I hga ?_)
  dsimp only
  simp only [canon_ga, Bool.false_eq_true, if_false]
  refine wpAny_bind (special_inst X I hk ?_)
  simp only [Option.isSome_none, Bool.false_eq_true, if_false]
  refine wpAny_bind (special_inst X I hf ?_)
  dsimp only
  refine wpAny_bind (wpAny_of_eq hty ?_)
  simp only [show (Value.type "method_descriptor" != Value.type "function" && Value.type "method_descriptor" != Value.type "method_descriptor" && Value.type "method_descriptor" != Value.type "wrapper_descriptor") = false by decide, Bool.false_eq_true, if_false]
  refine wpAny_bind (wpAny_loadPart_at I.at_ ?_)
  simp only [hdx]
  refine wpAny_bind ?_
  unfold nsGet
  refine wpAny_bind (wpAny_loadPart_at hbag ?_)
  rw [nsLook_of hb]
  refine wpAny_pure ?_
  simp only [Option.isSome_none, Bool.false_eq_true, if_false]
  exact wpAny_bind (wpAny_rule (wpAny_pure hq))
theorem sp_get : splitId "dict.get" = some ("dict", "get") := by decide +kernel
theorem kd_get : builtinKind "dict.get" = some .method := by decide +kernel
theorem sp_cont : splitId "dict.__contains__" = some ("dict", "__contains__") := by decide +kernel
theorem kd_cont : builtinKind "dict.__contains__" = some .method := by decide +kernel
theorem sp_len : splitId "dict.__len__" = some ("dict", "__len__") := by decide +kernel
theorem kd_len : builtinKind "dict.__len__" = some .slot := by decide +kernel
theorem fold_get {Q : Value → Shared → Prop} (X : K.In h) (I : InstAt h x (foldObj w C dx f kids n) C od) (hsub : mroIn K C (.type "dict") = some true) (hod : mroIn K C (.type "collections.OrderedDict") = some false) (hxs : (x == sysModules) = false)
    (hq : Q ((kfind kids y).getD .none) ⟨h, g, d, t + 1, os⟩) :
    wpAny (model prog w) A (call (.builtin "dict.get") [.ref x, .str y tk]) Q E ⟨h, g, d, t, os⟩ := by
  have L0 := I.type (M := model prog w)
  have L4 := looks_mroIn (M := model prog w) X hod
  have ha : argsOk "dict.get" ⟨.ref x :: [.str y tk], []⟩ := F.args_dict_get_2 _ _
  refine call_on I F.slot_dict_get.plain F.entry_dict_get (.inr kd_get) sp_get ha (looks_mroIn X hsub) ?_
  unfold Builtin.«dict.get» Builtin.Dict.keyAndDefault
  repeat (any_goals (first | assumption | refine L0.at ?_ | refine L4.at ?_ | (with_reducible refine dget I.at_ rfl ?_) | (with_reducible refine wpAny_missed_other hxs ?_) | wp_step))
  cases hv : kfind kids y with
  | some v => rw [hv] at hq; exact wpAny_pure ⟨_, rfl, hq⟩
  | none => rw [hv] at hq; exact wpAny_bind (wpAny_missed_other hxs (wpAny_pure ⟨_, rfl, hq⟩))
theorem fold_in {Q : Value → Shared → Prop} (X : K.In h) (I : InstAt h x (foldObj w C dx f kids n) C od) (hsub : mroIn K C (.type "dict") = some true) (hxs : (x == sysModules) = false)
    (hq : Q (.bool (kfind kids y).isSome) ⟨h, g, d, t + 1, os⟩) :
    wpAny (model prog w) A (call (.builtin "dict.__contains__") [.ref x, .str y tk]) Q E ⟨h, g, d, t, os⟩ := by
  have ha : argsOk "dict.__contains__" ⟨.ref x :: [.str y tk], []⟩ := F.args_dict_contains_2 _ _
  refine call_on I F.slot_dict_contains.plain F.entry_dict_contains (.inr kd_cont) sp_cont ha (looks_mroIn X hsub) ?_
  unfold Builtin.«dict.__contains__»
  refine wpAny_bind (keyArg_ok ?_)
  dsimp only
  refine wpAny_bind (dget I.at_ rfl ?_)
  cases hv : kfind kids y with
  | some v => rw [hv] at hq; exact wpAny_pure ⟨_, rfl, hq⟩
  | none => rw [hv] at hq; exact wpAny_bind (wpAny_pendingKey_other hxs (wpAny_pure ⟨_, rfl, hq⟩))
theorem fold_len {Q : Value → Shared → Prop} (X : K.In h) (I : InstAt h x (foldObj w C dx f kids n) C od) (hln : findIn K (.ref C) "__len__" = some (some (.builtin "dict.__len__"))) (hsub : mroIn K C (.type "dict") = some true) (hod : mroIn K C (.type "collections.OrderedDict") = some false) (hxs : (x == sysModules) = false)
    (hz : kids.length ≤ 1000000) (hq : ∀ t1 t2, Q (.int kids.length t1) ⟨h, g, d, t2, os⟩) :
    wpAny (model prog w) A (call (.builtin "len") [.ref x]) Q E ⟨h, g, d, t, os⟩ := by
  have L0 := I.type (M := model prog w)
  have L4 := looks_mroIn (M := model prog w) X hod
  have ha : argsOk "dict.__len__" ⟨.ref x :: [], []⟩ := F.args_dict_len_1 _
  refine call_function_entry kind_len plain_len entry_len (args_len1 _) ?_
  unfold Builtin.«len»
  refine wpAny_bind (m := oneArg "len" _) (wpAny_pure ?_)
  refine wpAny_bind ?_
  unfold callSpecial?
  refine wpAny_bind (special_inst X I hln ?_)
  refine wpAny_holding (wpAny_bind (wpAny_of_eq (F.slot_dict_len.bind _) ?_))
  refine wpAny_bind ?_
  refine call_on I F.slot_dict_len.plain F.entry_dict_len (.inl kd_len) sp_len ha (looks_mroIn X hsub) ?_
  unfold Builtin.«dict.__len__»
  repeat (any_goals (first | assumption | refine L0.at ?_ | refine L4.at ?_ | (with_reducible refine wpAny_loadPart_at I.at_ ?_) | (with_reducible refine wpAny_pendingCount_other hxs ?_) | wp_step))
  refine ⟨_, rfl, wpAny_pure ?_⟩
  have e : ((esOf w kids).size : Int) + ((0 : Nat) : Int) = kids.length := by unfold esOf; simp
  rw [e]
  refine wpAny_bind (wpAny_holding (wpAny_pure ?_))
  refine wpAny_bind (wpAny_letGo ?_)
  have h1 : ¬ ((kids.length : Int) < 0) := by omega
  have h2 : ¬ ((kids.length : Int) ≥ 2 ^ 63) := by omega
  simp only [h1, h2, if_false]
  exact wpAny_bind (wpAny_mkInt (wpAny_pure ⟨_, rfl, hq _ _⟩))
end
end
section
set_option maxHeartbeats 400000
noncomputable def kerase (kids : List Kid) (y : Str) : List Kid := kids.eraseP fun k => decide (k.1 = y)
theorem kfind_idx {kids : List Kid} {y : Str} {v : Value} (h : kfind kids y = some v) : ∃ i k, kids.findIdx? (fun k => decide (k.1 = y)) = some i ∧ kids[i]? = some k ∧ k.2.2 = v ∧ k.1 = y ∧ kids.eraseIdx i = kerase kids y := by
  induction kids with
  | nil => cases h
  | cons a r ih =>
    unfold kfind at h
    rw [List.find?_cons] at h
    cases e : decide (a.1 = y) with
    | true =>
      rw [e] at h
      have h1 : a.2.2 = v := Option.some.inj h
      refine ⟨0, a, ?_, rfl, h1, of_decide_eq_true e, ?_⟩
      · rw [List.findIdx?_cons, if_pos e]
      · unfold kerase; simp only [List.eraseP_cons, e]; rfl
    | false =>
      rw [e] at h
      obtain ⟨i, k, h1, h2, h3, h4, h5⟩ := ih h
      refine ⟨i + 1, k, ?_, h2, h3, h4, ?_⟩
      · rw [List.findIdx?_cons, if_neg (by rw [e]; simp), h1]; rfl
      · unfold kerase at h5 ⊢
        simp only [List.eraseP_cons, e]
        rw [List.eraseIdx_cons_succ, h5]; rfl
theorem map_erase {α β : Type} (f : α → β) : ∀ (l : List α) (i : Nat), (l.map f).eraseIdx i = (l.eraseIdx i).map f
  | [], _ => rfl
  | _ :: _, 0 => rfl
  | a :: r, i + 1 => by simp only [List.map_cons, List.eraseIdx_cons_succ, map_erase f r i]
theorem esOf_erase (w : World) (kids : List Kid) (i : Nat) : (esOf w kids).eraseIdxIfInBounds i = esOf w (kids.eraseIdx i) := by
  unfold esOf
  rw [Array.eraseIdxIfInBounds]
  split
  · rename_i hlt
    apply Array.toList_inj.mp
    rw [Array.toList_eraseIdx]
    simp only
    exact map_erase _ _ _
  · rename_i hlt
    rw [List.eraseIdx_of_length_le (by simpa using hlt)]
theorem esOf_get (w : World) (kids : List Kid) (i : Nat) : (esOf w kids)[i]? = (kids[i]?).map (entOf w) := by unfold esOf; simp
theorem sp_pop : splitId "dict.pop" = some ("dict", "pop") := by decide +kernel
theorem kd_pop : builtinKind "dict.pop" = some .method := by decide +kernel
section
variable {prog : Program} {w : World} {A : Around} {E : Value → Shared → Prop} {K : Frag} {x C : Addr} {od : Option Obj} {h : Heap} {g : Array GenState} {d : Drawn} {t : Nat} {os : OsState} {dx f : Addr} {kids : List Kid} {n : Nat} {y : Str} {tk : Tok}
theorem take_out {v : Value} {Q : Option DictEntry → Shared → Prop} (hx : h.get? x = some (foldObj w C dx f kids n)) (hv : kfind kids y = some v) (hz : kids.length ≤ 1000000)
    (hq : ∀ e h', e.val = v → Heap.SameBut x h h' → h'.get? x = some (foldObj w C dx f (kerase kids y) (n + 1)) → Q (some e) ⟨h', g, d, t + 1, os⟩) :
    wpAny (model prog w) A (Builtin.Dict.takeOut x (.str y tk)) Q E ⟨h, g, d, t, os⟩ := by
  have hkey := strKind_is prog w y tk
  obtain ⟨i, k, h1, h2, h3, h4, h5⟩ := kfind_idx hv
  unfold Builtin.Dict.takeOut
  refine wpAny_holding ?_
  refine wpAny_bind ((strKind prog w).pyHash hkey ?_)
  refine wpAny_bind (wpAny_dictFind_of (s := ⟨h, g, d, t + 1, os⟩) hkey hx rfl (keysOf_es kids) ?_)
  rw [idx_es, h1]
  dsimp only
  refine wpAny_bind (wpAny_dictEntries (s := ⟨h, g, d, t + 1, os⟩) hx rfl ?_)
  rw [esOf_get, h2]
  show wpAny _ _ (updateDictKeys x _ _ >>= _) _ _ _
  have hsz : (esOf w kids).size = kids.length := by unfold esOf; simp
  refine wpAny_bind (wpAny_updateDictKeys (s := ⟨h, g, d, t + 1, os⟩) (hz := by rw [hsz, sizeLine_eq]; omega) (hf := by rw [esOf_erase]; unfold esOf; simp; have := List.length_eraseIdx_le kids i; omega) hx rfl (wpAny_pure ?_))
  refine hq _ _ h3 (Heap.SameBut.update ..) ?_
  rw [Heap.get?_update_self _ hx rfl]
  have e : Obj.mapDictKeys (fun x => x.eraseIdxIfInBounds i) (foldObj w C dx f kids n) = { cls := .ref C, dict := some dx, data := .dict ((esOf w kids).eraseIdxIfInBounds i) (n + 1), slots := #[some (.ref f)] } := rfl
  rw [e, esOf_erase, h5]
theorem popKey_ok {M : Model} {key : Value} {Q : Addr × Value × Option Value → Shared → Prop} (L0 : Looks M h (typeOf (.ref x)) (.ref C)) (L4 : Looks M h (isSubtype (.ref C) (.type "collections.OrderedDict")) false) (hq : Q (x, key, none) ⟨h, g, d, t, os⟩) :
    wpAny M A (Builtin.Dict.keyAndDefault "pop" ⟨[.ref x, key], []⟩) Q E ⟨h, g, d, t, os⟩ := by
  unfold Builtin.Dict.keyAndDefault
  repeat (any_goals (first | assumption | refine L0.at ?_ | refine L4.at ?_ | wp_step))
theorem fold_pop {v : Value} {Q : Value → Shared → Prop} (X : K.In h) (I : InstAt h x (foldObj w C dx f kids n) C od) (hsub : mroIn K C (.type "dict") = some true) (hod : mroIn K C (.type "collections.OrderedDict") = some false)
    (hv : kfind kids y = some v) (hz : kids.length ≤ 1000000)
    (hq : ∀ h', Heap.SameBut x h h' → h'.get? x = some (foldObj w C dx f (kerase kids y) (n + 1)) → Q v ⟨h', g, d, t + 1, os⟩) :
    wpAny (model prog w) A (call (.builtin "dict.pop") [.ref x, .str y tk]) Q E ⟨h, g, d, t, os⟩ := by
  have L0 := I.type (M := model prog w)
  have L4 := looks_mroIn (M := model prog w) X hod
  have ha : argsOk "dict.pop" ⟨.ref x :: [.str y tk], []⟩ := F.args_dict_pop_2 _ _
  refine call_on I F.slot_dict_pop.plain F.entry_dict_pop (.inr kd_pop) sp_pop ha (looks_mroIn X hsub) ?_
  unfold Builtin.«dict.pop»
  refine wpAny_bind (popKey_ok L0 L4 ?_)
  dsimp only
  refine wpAny_bind (wpAny_of_eq (a := false) rfl ?_)
  simp only [Bool.false_eq_true, if_false]
  refine wpAny_bind (take_out I.at_ hv hz fun e h' he hs hx' => ?_)
  simp only [Option.isNone_some, Bool.false_eq_true, if_false]
  refine wpAny_bind (wpAny_letGo ?_)
  rw [he]
  exact wpAny_pure ⟨_, rfl, hq h' hs hx'⟩
end
end
section
set_option maxHeartbeats 400000
/-- a call of a def with one cell, seen from a smaller ground -/
theorem enterC {prog : Program} {w : World} {A : Around} {s : Shared} {K : Frag} {Q E : Value → Shared → Prop} {g : Heap} {news : List (Addr × Obj)}
    {p : Program} {loose : List Str} {mg mb : Str → Option Value}
    {name qual : Str} {params : Arguments} {body : List Stmt} {scope : Scope} {dV kV doc pm cdv ct oc : Value} {an od : Option Addr} {osl : Array (Option Value)} {f : Addr} {pos : List Value} (binds : List (Str × Value)) (nc : Str) (vc : Value)
    (X : K.In g) (T : TopRead p loose mg mb g) (U : Under g s.heap news)
    (ho : K.lookup f = some ⟨oc, od, .func (fnOf name qual params body scope dV kV doc pm an cdv ct), osl⟩) (hcd : codeIn K cdv qual = true) (hroom : A.depth < recursionLimit)
    (hbind : bindArgs (fnOf name qual params body scope dV kV doc pm an cdv ct) ⟨pos, []⟩ = pure binds)
    (hcs : ∀ k, cellsFrom k scope.names [] = [(nc, k)])
    (hkind : ∀ x ∈ binds, scope.names.lookup x.1 = some .local ∨ (scope.names.lookup x.1 = some .cell ∧ x.1 = nc))
    (hval : ∀ L', bindC (envX qual scope L' f cdv [(nc, L' + 1)]).kindOf binds (fun _ => none) nc = some vc)
    (h : ∀ L' c h₁ tk o, Fr g L' h₁ (bindL (envX qual scope L' f cdv [(nc, c)]).kindOf binds fun _ => none) → News g L' h₁ ((c, o) :: news) → o.data = .cell (some vc) → (∀ b o, s.heap.get? b = some o → h₁.get? b = some o) → s.heap.get? c = none →
      wpAny (model prog w) (A.deeper (envX qual scope L' f cdv [(nc, c)])) (execs body (envX qual scope L' f cdv [(nc, c)]))
        (fun fl s' => Q (match fl with | .ret v => v | _ => .none) s')
        (fun _ _ => False)
        { s with heap := h₁, toks := tk })
    (hco : scope.isCoroutine = false) (hgen : scope.isGenerator = false) (hk : scope.kind = .function) : wpAny (model prog w) A (PySem.call (.ref f) pos []) Q E s := by
  refine wpAny_call ?_
  refine codeAny_call_cells (fd := fnOf name qual params body scope dV kV doc pm an cdv ct) (body := body) hroom ((X.keeps U.kg) _ _ ho) rfl (T.nolimit.keeps U.kg) (codeRec_of (X.keeps U.kg) hcd) rfl hbind rfl (fun x hx => ?_) (fun s₁ Y => ?_) hco hgen hk
  · rcases hkind x hx with e | ⟨e, e2⟩
    · exact .inl e
    · refine .inr ⟨e, ?_⟩
      show ((cellsFrom (s.heap.objs.size + 1) scope.names []).lookup x.1).isSome = true
      rw [hcs, e2]; simp
  · obtain ⟨h₁, tk, rfl, _⟩ := Y.done
    have e : callEnvC (fnOf name qual params body scope dV kV doc pm an cdv ct) s.heap.objs.size f = envX qual scope s.heap.objs.size f cdv [(nc, s.heap.objs.size + 1)] := by
      unfold callEnvC newEnv
      rw [show (fnOf name qual params body scope dV kV doc pm an cdv ct).scope = scope from rfl, hcs]
    rw [e] at Y ⊢
    obtain ⟨o, hoc, hod⟩ := Y.cell nc (s.heap.objs.size + 1) (by simp)
    rw [hval] at hod
    have kp := Y.toInCall.keep
    have hfr : s.heap.get? (s.heap.objs.size + 1) = none := Heap.get?_none_of_le (Nat.le_succ _)
    refine wpAny_mono (h s.heap.objs.size (s.heap.objs.size + 1) h₁ tk o ⟨Y.toInCall.ns, fun b o e => kp b o (U.kg b o e), U.sz⟩ (fun p hp => ?_) hod kp hfr) (fun fl s' hl => hl) fun _ _ y => y.elim
    rcases List.mem_cons.mp hp with rfl | hp
    · refine ⟨hoc, Nat.ne_of_gt (Nat.lt_succ_self _), ?_⟩
      cases q : g.get? (s.heap.objs.size + 1) with
      | none => rfl
      | some o' => rw [U.kg _ _ q] at hfr; cases hfr
    · exact ⟨kp _ _ (U.at_ p hp).1, Nat.ne_of_lt (Heap.lt_size (U.at_ p hp).1), (U.at_ p hp).2⟩
end
section
set_option maxHeartbeats 400000
theorem own_sa1 : classOwn (.type "collections.defaultdict") "__setattr__" = pure none := by
  show (pure (builtinOwn "collections.defaultdict" "__setattr__") : Sem _) = _
  rw [builtinOwn_eq_fast]; kernel_rfl
theorem own_sa2 : classOwn (.type "dict") "__setattr__" = pure none := by
  show (pure (builtinOwn "dict" "__setattr__") : Sem _) = _
  rw [builtinOwn_eq_fast]; kernel_rfl
theorem slot_sa : Slot "object" "__setattr__" "object.__setattr__" :=
  .of (owner := "object") (n := "__setattr__") (by rw [typeLookup_type, builtinLookup_eq_fast]; kernel_rfl) (by decide +kernel) (by decide +kernel) (by decide +kernel)
    (by first | exact .inl (by decide +kernel) | exact .inr (by decide +kernel)) (by rw [isSubtype_type]; kernel_rfl)
theorem en_sa : entryFor table "object.__setattr__" = some Builtin.«object.__setattr__» := entryFor_of_tree (by kernel_rfl)
theorem ar_sa (a b c : Value) : argsOk "object.__setattr__" ⟨[a, b, c], []⟩ := by unfold argsOk; kernel_rfl
theorem kd_sa : builtinKind "object.__setattr__" = some .slot := by decide +kernel
theorem sp_sa : splitId "object.__setattr__" = some ("object", "__setattr__") := by decide +kernel
section
variable {prog : Program} {w : World} {A : Around} {E : Value → Shared → Prop} {K : Frag} {x C : Addr} {ox : Obj} {od : Option Obj} {h : Heap} {g : Array GenState} {d : Drawn} {t : Nat} {os : OsState} {dx : Addr}
theorem refuse_ok {M : Model} {Q : Unit → Shared → Prop} (L0 : Looks M h (typeOf (.ref x)) (.ref C)) (LC : Looks M h (mroOf (.ref C)) (.ref C :: bmD)) (hq : Q () ⟨h, g, d, t, os⟩) :
    wpAny M A (Builtin.ObjectAttr.refuseIfOverridden (.ref x) "__setattr__") Q E ⟨h, g, d, t, os⟩ := by
  have o1 := own_sa1
  have o2 := own_sa2
  have o3 := F.own_object_setattr
  unfold Builtin.ObjectAttr.refuseIfOverridden
  refine wpAny_bind (L0.at ?_)
  refine wpAny_bind (LC.at ?_)
  have n1 : (("collections.defaultdict" : String) == "_thread._local") = false := by decide
  have n2 : (("collections.defaultdict" : String) == "_pickle.Pickler" || ("collections.defaultdict" : String) == "_pickle.Unpickler") = false := by decide
  have n3 : (("dict" : String) == "_thread._local") = false := by decide
  have n4 : (("dict" : String) == "_pickle.Pickler" || ("dict" : String) == "_pickle.Unpickler") = false := by decide
  have n5 : (("object" : String) == "_thread._local") = false := by decide
  have n6 : (("object" : String) == "_pickle.Pickler" || ("object" : String) == "_pickle.Unpickler") = false := by decide
  simp only [List.forIn_cons, List.forIn_nil, o1, o2, o3, n1, n2, n3, n4, n5, n6, pure_bind, Bool.false_eq_true, if_false, Option.isSome_none, Option.isSome_some, if_true]
  have hi : (!Builtin.ObjectAttr.isObjects "object" (Str.ofString "__setattr__").toString) = false := by decide +kernel
  simp only [hi, Bool.false_eq_true, if_false, pure_bind]
  exact wpAny_pure hq
noncomputable def bagF (w : World) (tk : Tok) (v : Value) : Obj := { cls := .type "dict", data := .dict #[{ hash := PyData.keyHash w.params (Str.ofString "_frozen"), key := .str (Str.ofString "_frozen") tk, val := v }] 1 }
theorem bagF_eq (w : World) (tk : Tok) (v : Value) : Obj.putName (Str.ofString "_frozen") (PyData.keyHash w.params (Str.ofString "_frozen")) (.str (Str.ofString "_frozen") tk) v bag0 = bagF w tk v := by rfl
theorem set_frozen {v : Value} {cd : ClassData} {Q : Unit → Shared → Prop} (X : K.In h) (I : InstAt h x ox C (some bag0)) (hdx : ox.dict = some dx)
    (hsa : findIn K (.ref C) "__setattr__" = some (some (.builtin "object.__setattr__"))) (hfz : findIn K (.ref C) "_frozen" = some none) (hin : mroIn K C (.type "object") = some true)
    (LC : Looks (model prog w) h (mroOf (.ref C)) (.ref C :: bmD)) (hc : clsIn K C = some cd) (hh : cd.hasDict = true)
    (hq : ∀ h' tk, Heap.SameBut dx h h' → h'.get? dx = some (bagF w (t + 1) v) → Q () ⟨h', g, d, tk, os⟩) :
    wpAny (model prog w) A (setAttr (.ref x) "_frozen" v) Q E ⟨h, g, d, t, os⟩ := by
  have L0 := I.type (M := model prog w)
  have L1 := looks_findIn (M := model prog w) X hfz
  have hbag : h.get? dx = some bag0 := by have := I.dict; rw [hdx] at this; exact this
  have ha : ∀ tk, argsOk "object.__setattr__" ⟨.ref x :: [.str "_frozen" tk, v], []⟩ := fun _ => ar_sa _ _ _
  unfold setAttr
  refine wpAny_bind (wpAny_mkText ?_)
  refine wpAny_bind ?_
  unfold callSpecial?
  refine wpAny_bind (special_inst X I hsa ?_)
  refine wpAny_holding (wpAny_bind (wpAny_of_eq (slot_sa.bind _) ?_))
  refine wpAny_bind ?_
  refine call_on I slot_sa.plain en_sa (.inl kd_sa) sp_sa (ha _) (looks_mroIn X hin) ?_
  unfold Builtin.«object.__setattr__»
  dsimp only
  refine wpAny_bind (refuse_ok L0 LC ?_)
  refine wpAny_bind (wpAny_of_eq (a := ("_frozen" : Str)) (by first | rfl | kernel_rfl) ?_)
  refine wpAny_bind (L0.at ?_)
  refine wpAny_bind (L1.at ?_)
  refine wpAny_bind (wpAny_of_eq (a := none) rfl ?_)
  dsimp only
  unfold Builtin.ObjectAttr.storeInOwnDict
  refine wpAny_bind (wpAny_of_eq (a := ()) rfl ?_)
  refine wpAny_bind ?_
  unfold Builtin.ObjectAttr.ownDictForStores
  dsimp only
  unfold instanceDict
  refine wpAny_bind (wpAny_loadPart_at I.at_ ?_)
  rw [I.cls]
  dsimp only
  refine wpAny_bind ((looks_clsIn X hc).at ?_)
  simp only [hh, hdx]
  refine wpAny_pure (a := some dx) ?_
  dsimp only
  unfold Builtin.ObjectAttr.storeInDict
  refine wpAny_bind (wpAny_of_eq (a := ()) rfl ?_)
  refine wpAny_bind ?_
  unfold nsSet
  refine wpAny_bind (wpAny_bind (wpAny_askSetting (wpAny_pure (wpAny_bind (wpAny_mkText (wpAny_bind (wpAny_loadPart hbag ?_)))))))
  dsimp only
  rw [show aRefKeyMayBeTheName (Str.ofString "_frozen") #[] = false from by rfl]
  refine wpAny_updatePart hbag ?_
  have hD : (h.update dx (Obj.putName (Str.ofString "_frozen") (PyData.keyHash w.params (Str.ofString "_frozen")) (.str (Str.ofString "_frozen") (t + 1)) v)).get? dx = some (bagF w (t + 1) v) := by
    rw [Heap.get?_update_self _ hbag rfl, bagF_eq]
  refine wpAny_bind (wpAny_lookBehind hD (pastItsLine_dict (by rw [sizeLine_eq]; simp)) ?_)
  exact wpAny_pure ⟨_, rfl, wpAny_pure (wpAny_pure (hq _ _ (Heap.SameBut.update ..) hD))⟩
end
end
section
set_option maxHeartbeats 400000
noncomputable abbrev dfId : String := "collections.defaultdict.default_factory"
theorem ty_df : typeOf (.builtin dfId) = pure (.type "member_descriptor") := by show builtinType _ = _; rw [builtinType_eq_fast]; kernel_rfl
theorem lk_mem_get : typeLookup (.type "member_descriptor") "__get__" = pure (some (.builtin "member_descriptor.__get__")) := by rw [typeLookup_type, builtinLookup_eq_fast]; kernel_rfl
theorem slot_mem_get : Slot "member_descriptor" "__get__" "member_descriptor.__get__" :=
  .of (owner := "member_descriptor") (n := "__get__") lk_mem_get (by decide +kernel) (by decide +kernel) (by decide +kernel)
    (by first | exact .inl (by decide +kernel) | exact .inr (by decide +kernel)) (by rw [isSubtype_type]; kernel_rfl)
theorem en_mem_get : entryFor table "member_descriptor.__get__" = some Builtin.«member_descriptor.__get__» := entryFor_of_tree (by kernel_rfl)
theorem ar_mem_get (a b c : Value) : argsOk "member_descriptor.__get__" ⟨[a, b, c], []⟩ := by unfold argsOk; kernel_rfl
theorem en_df : entryFor table dfId = some Builtin.«collections.defaultdict.default_factory» := entryFor_of_tree (by kernel_rfl)
theorem pl_df : plainId dfId = true := by decide +kernel
section
variable {prog : Program} {w : World} {A : Around} {E : Value → Shared → Prop} {K : Frag} {x C dx f : Addr} {od : Option Obj} {h : Heap} {g : Array GenState} {d : Drawn} {t : Nat} {os : OsState} {kids : List Kid} {n : Nat}
theorem run_mem_get {P : Fin → Shared → Prop} (I : InstAt h x (foldObj w C dx f kids n) C od) (hsub : Looks (model prog w) h (isSubtype (.ref C) (.type "collections.defaultdict")) true)
    (hq : P (.again (.builtin dfId ⟨[.ref x], []⟩)) ⟨h, g, d, t, os⟩) :
    wpAny (model prog w) A (Builtin.«member_descriptor.__get__» ⟨[.builtin dfId, .ref x, .ref C], []⟩) P E ⟨h, g, d, t, os⟩ := by
  have L0 := I.type (M := model prog w)
  unfold Builtin.«member_descriptor.__get__» Builtin.Getset_descriptor.descrGet
  refine wpAny_bind (wpAny_of_eq (a := (.builtin dfId, some (.ref x), some (.ref C))) (by first | rfl | kernel_rfl) ?_)
  dsimp only
  unfold Builtin.Getset_descriptor.descrGetter
  refine wpAny_bind ?_
  unfold Builtin.Getset_descriptor.descrCheckInstance
  refine wpAny_bind (wpAny_of_eq (a := (("default_factory" : Str), .type "collections.defaultdict")) (by first | rfl | kernel_rfl) ?_)
  dsimp only
  refine wpAny_bind ?_
  unfold isInstance
  refine wpAny_bind (L0.at (hsub.at ?_))
  simp only [Bool.not_true, Bool.false_eq_true, if_false]
  exact wpAny_pure (wpAny_pure hq)
theorem code_df {R : Result → Shared → Prop} (hx : h.get? x = some (foldObj w C dx f kids n)) (hq : R (.ok (.ret (.ref f))) ⟨h, g, d, t, os⟩) :
    codeAny (model prog w) A (.builtin dfId ⟨[.ref x], []⟩) R ⟨h, g, d, t, os⟩ := by
  refine codeAny_builtin en_df ?_
  unfold Builtin.«collections.defaultdict.default_factory» Builtin.Collections_defaultdict.factory? slotAt
  dsimp only
  refine wpAny_bind (wpAny_bind (wpAny_bind (wpAny_loadPart_at hx (wpAny_pure ?_))))
  exact wpAny_pure (wpAny_pure hq)
theorem call_mem_get {Q : Value → Shared → Prop} (I : InstAt h x (foldObj w C dx f kids n) C od) (hsub : Looks (model prog w) h (isSubtype (.ref C) (.type "collections.defaultdict")) true)
    (hq : Q (.ref f) ⟨h, g, d, t, os⟩) :
    wpAny (model prog w) A (call (.builtin "member_descriptor.__get__") [.builtin dfId, .ref x, .ref C]) Q E ⟨h, g, d, t, os⟩ := by
  refine wpAny_call (codeAny_call_builtin slot_mem_get.plain en_mem_get (slot_mem_get.check _ _ _ _ _ _ _ _ ty_df (ar_mem_get _ _ _) (run_mem_get I hsub ?_)))
  exact ⟨Code.quiet_builtin _ (by decide +kernel), code_df I.at_ hq⟩
theorem attr_df {od : Option Obj} {Q : Value → Shared → Prop} (X : K.In h) (I : InstAt h x (foldObj w C dx f kids n) C od) (hga : findIn K (.ref C) "__getattribute__" = some (some (.builtin "collections.defaultdict.__getattribute__")))
    (hk : findIn K (.ref C) "__getattr__" = some none) (hin : mroIn K C (.type "collections.defaultdict") = some true)
    (hf : findObj K C od "default_factory" = some (.bind (.builtin "member_descriptor.__get__") (.builtin dfId))) (hq : Q (.ref f) ⟨h, g, d, t + 1, os⟩) :
    wpAny (model prog w) A (getAttr (.ref x) "default_factory" false) Q E ⟨h, g, d, t, os⟩ := by
  have L0 := I.type (M := model prog w)
  have L1 := looks_findIn (M := model prog w) X hga
  have L2 := looks_find (M := model prog w) X I hf
  have L3 := looks_findIn (M := model prog w) X hk
  have L4 := looks_mroIn (M := model prog w) X hin
  unfold getAttr getAttrBy
  refine wpAny_bind (wpAny_mkText (wpAny_holding (wpAny_bind (L0.at (wpAny_bind (L1.at ?_))))))
  show wpAny _ _ (getAttrByItsOwn _ _ _ _ _ _) _ _ _
  unfold getAttrByItsOwn hookBefore callGetattribute boundAndCalled
  refine wpAny_bind (L3.at ?_)
  refine wpAny_bind (wpAny_attempt (wpAny_holding ?_))
  show wpAny _ _ (bindSpecial _ (.ref x) >>= _) _ _ _
  refine wpAny_bind (wpAny_of_eq (slot_ga.bind _) ?_)
  refine call_ga I L4 L2 ?_
  show wpAny _ _ (Builtin.ObjectAttr.bindTo _ _ _ _) _ _ _
  unfold Builtin.ObjectAttr.bindTo
  dsimp only
  refine wpAny_bind (wpAny_holding (call_mem_get I L4 ?_))
  refine wpAny_pure ⟨_, rfl, ?_⟩
  exact wpAny_pure hq
theorem get_df {bag : Obj} {pl : Sem Bool} {Q : Value × List Value → Shared → Prop} (X : K.In h) (I : InstAt h x (foldObj w C dx f kids n) C (some bag)) (hga : findIn K (.ref C) "__getattribute__" = some (some (.builtin "collections.defaultdict.__getattribute__")))
    (hk : findIn K (.ref C) "__getattr__" = some none) (hin : mroIn K C (.type "collections.defaultdict") = some true)
    (hfi : findIn K (.ref C) "default_factory" = some (some (.builtin dfId)))
    (hf : findObj K C (some bag) "default_factory" = some (.bind (.builtin "member_descriptor.__get__") (.builtin dfId)))
    (hq : Q (.ref f, []) ⟨h, g, d, t + 1, os⟩) : wpAny (model prog w) A (getMethod (.ref x) "default_factory" pl) Q E ⟨h, g, d, t, os⟩ := by
  unfold getMethod
  refine wpAny_bind (special_inst X I hga ?_)
  dsimp only
  simp only [canon_ga, Bool.false_eq_true, if_false]
  refine wpAny_bind (special_inst X I hk ?_)
  simp only [Option.isSome_none, Bool.false_eq_true, if_false]
  refine wpAny_bind (special_inst X I hfi ?_)
  dsimp only
  refine wpAny_bind (wpAny_of_eq ty_df ?_)
  rw [if_pos (show (Value.type "member_descriptor" != Value.type "function" && Value.type "member_descriptor" != Value.type "method_descriptor" && Value.type "member_descriptor" != Value.type "wrapper_descriptor") = true by decide)]
  exact wpAny_bind (attr_df X I hga hk hin hf (wpAny_pure hq))
end
end
section
/-- the lambda that a def of one assignment makes -/
noncomputable def lamObj (st : Stmt) (qual : Str) (c : Addr) (pm : Value) (cc : Addr) (ctv : Value) : Obj := match st with
  | .FunctionDef _ _ [.Assign _ (.Lambda a b sc _) _] _ _ _ _ _ _ _ => kla_obj (Str.ofString "<lambda>") qual a b sc [(Str.ofString "self", c)] pm cc ctv
  | _ => default
noncomputable abbrev lamQual : Str := Str.ofString "FreezableDefaultDict.freeze" ++ Str.ofString ".<locals>." ++ Str.ofString "<lambda>"
theorem freeze_ct : ∀ {w : World} {dp un : Nat} {fr : Option (List Env)} {gd : Option (List Code)} {s : Shared} {Q E : Value → Shared → Prop} {x dx f : Addr} {kids : List Kid} {n : Nat}
   {p loose mean mg mb} {g : Heap}
   (X : (K1 w.params).In g) (TT : Top p loose mean mg mb g) (CH : CodeHd g 61 57) (U : Under g s.heap [(x, foldObj w 65 dx f kids n), (dx, bag0), (57, tabObj #[])]) (hdp : dp + 15 < 1000) (hu : un + 60 < 9900)
   (hxd : @Ne Nat x dx) (hx57 : @Ne Nat x 57) (hd57 : @Ne Nat dx 57)
   (hQ : ∀ lam cc c oc' co ctv tk0 h₂ tk₂, Under g h₂ [(lam, lamObj (inClass (stAt 3) 1) lamQual c ((mg "__name__").getD .none) cc ctv), (cc, oc'), (c, co), (x, foldObj w 65 dx f kids n), (dx, bagF w tk0 (.ref lam)), (57, tabObj #[rawInt 12, rawInt 23, .ref cc])] →
      co.data = .cell (some (.ref x)) → (∃ vs t, oc'.data = .fields vs ∧ vs[1]? = some (.str lamQual t)) → @LT.lt Nat _ cc lam → @LT.lt Nat _ c cc → @LT.lt Nat _ x cc → @LT.lt Nat _ dx cc → @LT.lt Nat _ 57 cc →
      @Ne Nat x c → @Ne Nat dx c → @Ne Nat 57 c → s.heap.get? c = none → Q .none { s with heap := h₂, toks := tk₂ })
   , wpAny (model PySem.Challenge.rw_il0142_01.row.prog w) (Ar dp un fr gd) (call (.ref 62) [.ref x]) Q E s := by
  k_fill
  intro w dp un fr gd s Q E x dx f kids n p loose mean mg mb g X TT CH U hdp hu hxd hx57 hd57 hQ
  have T := topRead_of TT
  refine' enterC [(Str.ofString "self", .ref x)] (Str.ofString "self") (.ref x) ?X ?T ?U ?ho ?hcd ?hroom ?hbind ?hcs ?hkind ?hval ?_ ?hco ?hgen ?hk
  case X => assumption
  case T => assumption
  case U => assumption
  case ho => k_is
  case hcd => k_is
  case hroom => exact roomE (by assumption)
  case hbind => exact rfl
  case hcs => exact fun _ => rfl
  case hkind => (intro y hy; rw [List.mem_singleton.mp hy]; exact .inr ⟨rfl, rfl⟩)
  case hval => exact fun _ => rfl
  case hco => exact rfl
  case hgen => exact rfl
  case hk => exact rfl
  intro L' c h₁ tk o Fa Na hod k₁ hc
  obtain ⟨oc, od, odt, osl⟩ := o
  dsimp only at hod
  subst hod
  try dsimp only
  k_fold
  k_steps
  have hcn : AllNe c [(x, foldObj w 65 dx f kids n), (dx, bag0), (57, tabObj #[])] := allNe_of fun p hp e => by rw [← e, (U.at_ p hp).1] at hc; cases hc
  simp only [AllNe] at hcn
  refine kla_eval rfl ?_
  refine' kla_nest Fa Na TT CH ?cd ?U ?trip ?among ?cl ?_
  case cd => exact rfl
  case U => k_updF
  case trip => exact True.intro
  case among => exact rfl
  case cl => exact rfl
  intro f' c' oc' vs' t' ct' h' tk' F' N' d1' d2' l1 l2
  (try dsimp only at N')
  clear Fa Na
  refine wpAny_Name (wpAny_loadName_cell rfl rfl (c := c) (by first | rfl | simp) ⟨_, News.get N' (.tail _ (.tail _ (.head _))), rfl⟩ ?_) (by decide)
  have X' : (K1 w.params).In h' := X.keeps F'.keep
  have I' : InstAt h' x (foldObj w 65 dx f kids n) 65 (some bag0) := ⟨(N' (x, foldObj w 65 dx f kids n) (by k_mem)).1, rfl, rfl, (N' (dx, bag0) (by k_mem)).1⟩
  have LC : Looks (model PySem.Challenge.rw_il0142_01.row.prog w) h' (mroOf (.ref 65)) (.ref 65 :: bmD) := by
    have hc : ∃ cd, clsIn (K1 w.params) 65 = some cd ∧ cd.mro = .ref 65 :: bmD := ⟨_, by k_is, rfl⟩
    obtain ⟨cd, hc, hm⟩ := hc
    rw [← hm]
    exact fun A Q E s k q => wpAny_bind ((looks_clsIn X' hc) A _ E s k (wpAny_pure q))
  refine set_frozen X' I' rfl (by k_is) (by k_is) (by k_is) LC (by k_is) rfl (fun h₂ tk₂ hs hb => ?_)
  refine wpAny_execs_nil ?_
  have a1 : @LT.lt Nat _ c c' := l1 _ (.head _)
  have a2 : @LT.lt Nat _ x c' := l1 _ (.tail _ (.head _))
  have a3 : @LT.lt Nat _ dx c' := l1 _ (.tail _ (.tail _ (.head _)))
  have a4 : @LT.lt Nat _ 57 c' := l1 _ (.tail _ (.tail _ (.tail _ (.head _))))
  have a5 : @LT.lt Nat _ c' f' := l2
  have oth : ∀ b o, @Ne Nat b dx → (b, o) ∈ _ → h₂.get? b = some o ∧ g.get? b = none := fun b o hne hm => ⟨(hs.2 b hne).trans (N' (b, o) hm).1, (N' (b, o) hm).2.2⟩
  refine hQ f' c' c oc' { cls := oc, dict := od, data := .cell (some (.ref x)), slots := osl } ct' (tk' + 1) h₂ tk₂ ⟨fun b o e => ?_, ?_, fun p hp => ?_⟩ rfl ⟨vs', t', d1', d2'⟩ a5 a1 a2 a3 a4 hcn.1 hcn.2.1 hcn.2.2.1 hc
  · exact (hs.2 b (fun e2 => by rw [e2, (N' (dx, bag0) (by k_mem)).2.2] at e; cases e)).trans (F'.keep b o e)
  · rw [hs.1]; exact Nat.le_of_lt (Nat.lt_of_le_of_lt F'.above F'.ns.lt)
  · simp only [List.mem_cons, List.not_mem_nil, or_false] at hp
    rcases hp with rfl | rfl | rfl | rfl | rfl | rfl
    · exact oth _ _ (by omega) (.head _)
    · exact oth _ _ (by omega) (.tail _ (.head _))
    · exact oth _ _ (by omega) (.tail _ (.tail _ (.head _)))
    · exact oth _ _ (by omega) (.tail _ (.tail _ (.tail _ (.head _))))
    · exact ⟨hb, (N' (dx, bag0) (by k_mem)).2.2⟩
    · exact oth _ _ (by omega) (.tail _ (.tail _ (.tail _ (.tail _ (.tail _ (.head _))))))
end
section

theorem scope_ok2 : ∀ x ∈ ([(Str.ofString "key", NameKind.local), (Str.ofString "self", NameKind.free)] : List (Str × NameKind)), x.2 ≠ .cell := by decide
theorem fmissing_ct : ∀ {w : World} {dp un : Nat} {fr : Option (List Env)} {gd : Option (List Code)} {s : Shared} {Q E : Value → Shared → Prop} {x dx f lam c cc : Addr} {co oc' of : Obj} {fd : FuncData} {pmv ctv : Value} {tk0 : Tok} {kids : List Kid} {n : Nat} {y : Str} {t : Tok}
   {p loose mg mb} {g : Heap} {R : Value → Heap → Heap → Prop}
   (X : (K1 w.params).In g) (T : TopRead p loose mg mb g) (U : Under g s.heap [(x, foldObj w 65 dx f kids n), (dx, bagF w tk0 (.ref lam)), (lam, lamObj (inClass (stAt 3) 1) lamQual c pmv cc ctv), (c, co), (cc, oc')]) (hdp : dp + 15 < 1000) (hu : un + 60 < 9900)
   (hco : co.data = .cell (some (.ref x))) (hoc : ∃ vs t, oc'.data = .fields vs ∧ vs[1]? = some (.str lamQual t))
   (hf : g.get? f = some of) (hfd : of.data = .func fd) 
   (hcall : ∀ fr' h₀ tk₀, (∀ b o, s.heap.get? b = some o → h₀.get? b = some o) → g.objs.size ≤ h₀.objs.size →
      wpAny (model PySem.Challenge.rw_il0142_01.row.prog w) (Ar (dp + 2) (un + 6) fr' gd) (call (.ref f) []) (fun v s₁ => ∃ h₁ tk₁, s₁ = { s with heap := h₁, toks := tk₁ } ∧ (∀ b o, h₀.get? b = some o → h₁.get? b = some o) ∧ R v h₀ h₁) (fun _ _ => False) { s with heap := h₀, toks := tk₀ })
   (hQ : ∀ v h₀ h₁ tk, (∀ b o, s.heap.get? b = some o → h₀.get? b = some o) → (∀ b o, h₀.get? b = some o → h₁.get? b = some o) → g.objs.size ≤ h₀.objs.size → R v h₀ h₁ → Q v { s with heap := h₁, toks := tk })
   , wpAny (model PySem.Challenge.rw_il0142_01.row.prog w) (Ar dp un fr gd) (call (.ref 55) [.ref x, .str y t]) Q E s := by
  k_fill
  intro w dp un fr gd s Q E x dx f lam c cc co oc' of fd pmv ctv tk0 kids n y t p loose mg mb g R X T U hdp hu hco hoc hf hfd hcall hQ
  refine' enterAt [(Str.ofString "self", .ref x), (Str.ofString "key", .str y t)] ?X ?T ?U ?ho ?hcd ?hroom ?hbind ?hloc ?_ ?hco ?hgen ?hk ?hcell
  case X => assumption
  case T => assumption
  case U => assumption
  case ho => k_is
  case hcd => k_is
  case hroom => exact roomE (by assumption)
  case hbind => exact BindsTo.of_eq rfl
  case hloc => exact locs rfl
  case hco => exact rfl
  case hgen => exact rfl
  case hk => exact rfl
  case hcell => decide
  intro L' h₁ F' N' k₁
  try dsimp only
  refine ks_wpAt_execs_cons (ks_wpAt_Return_some ?_)
  refine at_Call ?_
  refine at_Call ?_
  refine at_val (a := .builtin "getattr") (s' := { s with heap := h₁, toks := s.toks + 2 }) (by k_steps) ?_
  refine at_callWith_builtin rfl ?_
  simp only [starEach, backTo, List.map_cons, List.map_nil, Bool.false_eq_true, if_false]
  refine at_evalArgs_plain (at_spliced_cons ?_)
  refine at_val (a := .ref x) (s' := { s with heap := h₁, toks := s.toks + 2 }) (by k_steps) ?_
  refine at_spliced_cons ?_
  refine at_val (a := .str "_frozen" (s.toks + 2)) (s' := { s with heap := h₁, toks := s.toks + 2 + 1 }) (by k_steps) ?_
  refine at_spliced_cons ?_
  refine at_Attribute ?_
  have I1 : InstAt h₁ x (foldObj w 65 dx f kids n) 65 (some (bagF w tk0 (.ref lam))) := ⟨(N' _ (.head _)).1, rfl, rfl, (N' _ (.tail _ (.head _))).1⟩
  refine super_read (s := { s with heap := h₁, toks := s.toks + 2 + 1 }) F' X N' T (by k_is) (by rfl) (by rfl) I1 (by k_is) (by rfl) (by first | rfl | decide +kernel) (by k_is) (by k_is) (by k_is) (by k_is) (by decide) (by rfl) (by rfl) (by rfl) (by rfl) (by decide +kernel) (by first | boot_by_name | rfl) (fun so h₂ F₂ N₂ k₂ => ?_)
  have X2 : (K1 w.params).In h₂ := X.keeps F₂.keep
  have I2 : InstAt h₂ x (foldObj w 65 dx f kids n) 65 (some (bagF w tk0 (.ref lam))) := ⟨k₂ _ _ I1.at_, rfl, rfl, k₂ _ _ I1.dict⟩
  have hx65 : x ≠ 65 := fun e => by
    have := (N' _ (.head _)).2.2
    rw [show (x, foldObj w 65 dx f kids n).1 = x from rfl, e] at this
    obtain ⟨oC, cd, e1, _⟩ := fd_cls (P := w.params)
    rw [X _ _ e1] at this
    cases this
  have LC : ∀ h, (K1 w.params).In h → Looks (model PySem.Challenge.rw_il0142_01.row.prog w) h (mroOf (.ref 65)) (.ref 65 :: bmD) := fun h Xh => by
    have hc : ∃ cd, clsIn (K1 w.params) 65 = some cd ∧ cd.mro = .ref 65 :: bmD := ⟨_, by k_is, rfl⟩
    obtain ⟨cd, hc, hm⟩ := hc
    rw [← hm]
    exact fun A Q E s k q => wpAny_bind ((looks_clsIn Xh hc) A _ E s k (wpAny_pure q))
  refine attr_super_miss (N₂ _ (.head _)).1 (looks_opaque X2 (by k_is)) (LC _ X2) I2.at_ rfl (looks_mroIn X2 (by k_is)) hx65 ?_
  refine let_go (fun _ _ e => by cases e) ?_
  refine wpAt_of_wpAny (Calls.spliced_nil ?_)
  have k₃ : ∀ b o, h₂.get? b = some o → (h₂.push (boundMiss x)).get? b = some o := fun b o e => Heap.get?_push_of_some _ e
  generalize h₂.push (boundMiss x) = h₃ at k₃ ⊢
  generalize h₂.objs.size = b at ⊢
  have X3 : (K1 w.params).In h₃ := X2.keeps k₃
  have I3 : InstAt h₃ x (foldObj w 65 dx f kids n) 65 (some (bagF w tk0 (.ref lam))) := ⟨k₃ _ _ I2.at_, rfl, rfl, k₃ _ _ I2.dict⟩
  have F₃ : Fr g L' h₃ _ := Fr.keeps F₂ k₃
  have kk : ∀ b o, s.heap.get? b = some o → h₃.get? b = some o := fun b o e => k₃ _ _ (k₂ _ _ (k₁ _ _ e))
  have hl := kk _ _ (U.at_ (lam, lamObj (inClass (stAt 3) 1) lamQual c pmv cc ctv) (.tail _ (.tail _ (.head _)))).1
  have hc := kk _ _ (U.at_ (c, co) (.tail _ (.tail _ (.tail _ (.head _))))).1
  have hcc := kk _ _ (U.at_ (cc, oc') (.tail _ (.tail _ (.tail _ (.tail _ (.head _)))))).1
  refine getattr_frozen (v := .ref lam) X3 I3 (by k_is) (by k_is) (by k_is) (by k_is) (by first | rfl | kernel_rfl) rfl ?_
  refine wpAt_of_wpAny (callWith_of (P := FnAt lam) rfl keeps_F ?_)
  simp only [starEach, backTo, List.map_cons, List.map_nil, Bool.false_eq_true, if_false]
  refine Calls.evalArgs_plain (Calls.spliced_cons ?_)
  refine PySem.wpAny_mono (Q := fun v s₁ => v = .str y t ∧ s₁ = { s with heap := h₃, toks := s.toks + 2 + 1 + 1 }) (E := fun _ _ => False) (by k_steps) (fun v s₁ e => ?_) (fun _ _ e => e.elim)
  obtain ⟨rfl, rfl⟩ := e
  refine Calls.spliced_nil ?_
  refine ⟨⟨_, _, _, _, hl⟩, ?_⟩
  obtain ⟨vs, tq, hoc1, hoc2⟩ := hoc
  refine wpAny_call (kla_callFunE (A := _) ?hroom hl rfl rfl rfl rfl ⟨cc, oc', vs, tq, rfl, hcc, hoc1, hoc2⟩ ?_)
  case hroom => (show dp + 1 < 1000; exact room0 hdp (by decide))
  refine wpAny_of_eq (a := [(Str.ofString "key", .str y t)]) rfl ?_
  refine wpAny_newFunctionEnv (scope_ok2) (locs rfl) (fun h₄ hns hsb => ⟨((T.keeps F₃.keep).nolimit).fresh _ hsb, ?_⟩) rfl
  have hk₄ : ∀ b o, h₃.get? b = some o → h₄.get? b = some o := fun b o e => hsb.extBut b o (Nat.ne_of_lt (Heap.lt_size e)) (Heap.get?_push_of_some _ e)
  have X4 : (K1 w.params).In h₄ := X3.keeps hk₄
  have I4 : InstAt h₄ x (foldObj w 65 dx f kids n) 65 (some (bagF w tk0 (.ref lam))) := ⟨hk₄ _ _ I3.at_, rfl, rfl, hk₄ _ _ I3.dict⟩
  have hf4 := hk₄ _ _ (F₃.keep _ _ hf)
  obtain ⟨oc1, od1, odt1, osl1⟩ := of
  dsimp only at hfd
  subst hfd
  refine kla_codeExpr (PySem.wpAny_mono (E := fun _ _ => False) ?_ (fun _ _ e => e) (fun _ _ e => e.elim))
  refine MethodCall_ ?_
  refine wpAny_Name (wpAny_loadName_free rfl rfl rfl ⟨co, hk₄ _ _ hc, hco⟩ ?_) (by decide)
  refine get_df X4 I4 (by k_is) (by k_is) (by k_is) (by k_is) (by first | rfl | kernel_rfl) ?_
  refine callWith_F0 ⟨_, _, _, _, hf4⟩ ?_
  have hz4 : g.objs.size ≤ h₄.objs.size := Nat.le_of_lt (Nat.lt_of_le_of_lt F₃.above (F₃.ns.keeps hk₄).lt)
  refine PySem.wpAny_mono (hcall _ h₄ _ (fun b o e => hk₄ _ _ (kk _ _ e)) hz4) (fun v s₁ e => ?_) (fun _ _ e => False.elim e)
  obtain ⟨h₅, tk₅, rfl, k₅, r⟩ := e
  exact hQ _ _ _ _ (fun b o e => hk₄ _ _ (kk _ _ e)) k₅ hz4 r
end
section
theorem trip1 (cc : Addr) : TriplesOk (#[rawInt 12, rawInt 23, Value.ref cc] : Array Value).toList := by
  simp [TriplesOk, rawInt]
theorem among1 (cc : Addr) : codeAmong { line := 12, col := 23, endLine := 12, endCol := 57 } (#[rawInt 12, rawInt 23, Value.ref cc] : Array Value).toList = some (.ref cc) := by
  simp [codeAmong, rawInt]
theorem freeze2_ct : ∀ {w : World} {dp un : Nat} {fr : Option (List Env)} {gd : Option (List Code)} {s : Shared} {Q E : Value → Shared → Prop} {x dx f : Addr} {kids : List Kid} {n : Nat} {cc : Addr} {oc' : Obj}
   {p loose mean mg mb} {g : Heap}
   (X : (K1 w.params).In g) (TT : Top p loose mean mg mb g) (CH : CodeHd g 61 57) (U : Under g s.heap [(x, foldObj w 65 dx f kids n), (dx, bag0), (57, tabObj #[rawInt 12, rawInt 23, .ref cc]), (cc, oc')]) (hdp : dp + 15 < 1000) (hu : un + 60 < 9900)
   (hxd : @Ne Nat x dx) (hx57 : @Ne Nat x 57) (hd57 : @Ne Nat dx 57) (hcc : @Ne Nat cc dx)
   (hQ : ∀ lam c co ctv tk0 h₂ tk₂, Under g h₂ [(lam, lamObj (inClass (stAt 3) 1) lamQual c ((mg "__name__").getD .none) cc ctv), (c, co), (x, foldObj w 65 dx f kids n), (dx, bagF w tk0 (.ref lam)), (57, tabObj #[rawInt 12, rawInt 23, .ref cc]), (cc, oc')] →
      co.data = .cell (some (.ref x)) → @LT.lt Nat _ c lam → @LT.lt Nat _ x lam → @LT.lt Nat _ dx lam → @LT.lt Nat _ 57 lam → @LT.lt Nat _ cc lam →
      @Ne Nat x c → @Ne Nat dx c → @Ne Nat 57 c → @Ne Nat cc c → s.heap.get? c = none → Q .none { s with heap := h₂, toks := tk₂ })
   , wpAny (model PySem.Challenge.rw_il0142_01.row.prog w) (Ar dp un fr gd) (call (.ref 62) [.ref x]) Q E s := by
  k_fill
  intro w dp un fr gd s Q E x dx f kids n cc oc' p loose mean mg mb g X TT CH U hdp hu hxd hx57 hd57 hcc hQ
  have T := topRead_of TT
  refine' enterC [(Str.ofString "self", .ref x)] (Str.ofString "self") (.ref x) ?X ?T ?U ?ho ?hcd ?hroom ?hbind ?hcs ?hkind ?hval ?_ ?hco ?hgen ?hk
  case X => assumption
  case T => assumption
  case U => assumption
  case ho => k_is
  case hcd => k_is
  case hroom => exact roomE (by assumption)
  case hbind => exact rfl
  case hcs => exact fun _ => rfl
  case hkind => (intro y hy; rw [List.mem_singleton.mp hy]; exact .inr ⟨rfl, rfl⟩)
  case hval => exact fun _ => rfl
  case hco => exact rfl
  case hgen => exact rfl
  case hk => exact rfl
  intro L' c h₁ tk o Fa Na hod k₁ hc
  obtain ⟨oc, od, odt, osl⟩ := o
  dsimp only at hod
  subst hod
  try dsimp only
  k_fold
  refine wpAny_execs_cons ?_
  refine plainObj_wpAny_Assign_Attribute ?_ (by with_unfolding_all rfl)
  have hcn : AllNe c [(x, foldObj w 65 dx f kids n), (dx, bag0), (57, tabObj #[rawInt 12, rawInt 23, .ref cc]), (cc, oc')] := allNe_of fun p hp e => by rw [← e, (U.at_ p hp).1] at hc; cases hc
  simp only [AllNe] at hcn
  refine kla_eval rfl ?_
  refine' kla_hit (ps := #[rawInt 12, rawInt 23, .ref cc]) (c' := cc) Fa Na TT CH ?cd ?mem ?trip ?among ?cl ?_
  case cd => exact rfl
  case mem => exact .tail _ (.tail _ (.tail _ (.head _)))
  case trip => exact trip1 cc
  case among => exact among1 cc
  case cl => exact rfl
  intro f' ct' h' tk' F' N' l1
  (try dsimp only at N')
  clear Fa Na
  refine wpAny_Name (wpAny_loadName_cell rfl rfl (c := c) (by first | rfl | simp) ⟨_, News.get N' (.tail _ (.head _)), rfl⟩ ?_) (by decide)
  have X' : (K1 w.params).In h' := X.keeps F'.keep
  have I' : InstAt h' x (foldObj w 65 dx f kids n) 65 (some bag0) := ⟨(N' (x, foldObj w 65 dx f kids n) (by k_mem)).1, rfl, rfl, (N' (dx, bag0) (by k_mem)).1⟩
  have LC : Looks (model PySem.Challenge.rw_il0142_01.row.prog w) h' (mroOf (.ref 65)) (.ref 65 :: bmD) := by
    have hc : ∃ cd, clsIn (K1 w.params) 65 = some cd ∧ cd.mro = .ref 65 :: bmD := ⟨_, by k_is, rfl⟩
    obtain ⟨cd, hc, hm⟩ := hc
    rw [← hm]
    exact fun A Q E s k q => wpAny_bind ((looks_clsIn X' hc) A _ E s k (wpAny_pure q))
  refine set_frozen X' I' rfl (by k_is) (by k_is) (by k_is) LC (by k_is) rfl (fun h₂ tk₂ hs hb => ?_)
  refine wpAny_execs_nil ?_
  have a1 : @LT.lt Nat _ c f' := l1 _ (.head _)
  have a2 : @LT.lt Nat _ x f' := l1 _ (.tail _ (.head _))
  have a3 : @LT.lt Nat _ dx f' := l1 _ (.tail _ (.tail _ (.head _)))
  have a4 : @LT.lt Nat _ 57 f' := l1 _ (.tail _ (.tail _ (.tail _ (.head _))))
  have a5 : @LT.lt Nat _ cc f' := l1 _ (.tail _ (.tail _ (.tail _ (.tail _ (.head _)))))
  have oth : ∀ b o, @Ne Nat b dx → (b, o) ∈ _ → h₂.get? b = some o ∧ g.get? b = none := fun b o hne hm => ⟨(hs.2 b hne).trans (N' (b, o) hm).1, (N' (b, o) hm).2.2⟩
  refine hQ f' c { cls := oc, dict := od, data := .cell (some (.ref x)), slots := osl } ct' (tk' + 1) h₂ tk₂ ⟨fun b o e => ?_, ?_, fun p hp => ?_⟩ rfl a1 a2 a3 a4 a5 hcn.1 hcn.2.1 hcn.2.2.1 hcn.2.2.2.1 hc
  · exact (hs.2 b (fun e2 => by rw [e2, (N' (dx, bag0) (by k_mem)).2.2] at e; cases e)).trans (F'.keep b o e)
  · rw [hs.1]; exact Nat.le_of_lt (Nat.lt_of_le_of_lt F'.above F'.ns.lt)
  · simp only [List.mem_cons, List.not_mem_nil, or_false] at hp
    rcases hp with rfl | rfl | rfl | rfl | rfl | rfl
    · exact oth _ _ (by omega) (.head _)
    · exact oth _ _ (by omega) (.tail _ (.head _))
    · exact oth _ _ (by omega) (.tail _ (.tail _ (.head _)))
    · exact ⟨hb, (N' (dx, bag0) (by k_mem)).2.2⟩
    · exact oth _ _ (by omega) (.tail _ (.tail _ (.tail _ (.tail _ (.head _)))))
    · exact oth _ _ (by omega) (.tail _ (.tail _ (.tail _ (.tail _ (.tail _ (.head _))))))
end
section
set_option maxHeartbeats 400000
section
variable {prog : Program} {w : World} {A : Around} {E : Value → Shared → Prop} {K : Frag} {x C : Addr} {ox : Obj} {od : Option Obj} {h : Heap} {g : Array GenState} {d : Drawn} {t : Nat} {os : OsState} {dx : Addr}
theorem bagF_eq2 (w : World) (tk tk0 : Tok) (v v0 : Value) : Obj.putName (Str.ofString "_frozen") (PyData.keyHash w.params (Str.ofString "_frozen")) (.str (Str.ofString "_frozen") tk) v (bagF w tk0 v0) = bagF w tk0 v := by rfl
theorem set_frozen2 {v v0 : Value} {tk0 : Tok} {cd : ClassData} {Q : Unit → Shared → Prop} (X : K.In h) (I : InstAt h x ox C (some (bagF w tk0 v0))) (hdx : ox.dict = some dx)
    (hsa : findIn K (.ref C) "__setattr__" = some (some (.builtin "object.__setattr__"))) (hfz : findIn K (.ref C) "_frozen" = some none) (hin : mroIn K C (.type "object") = some true)
    (LC : Looks (model prog w) h (mroOf (.ref C)) (.ref C :: bmD)) (hc : clsIn K C = some cd) (hh : cd.hasDict = true)
    (hq : ∀ h' tk, Heap.SameBut dx h h' → h'.get? dx = some (bagF w tk0 v) → Q () ⟨h', g, d, tk, os⟩) :
    wpAny (model prog w) A (setAttr (.ref x) "_frozen" v) Q E ⟨h, g, d, t, os⟩ := by
  have L0 := I.type (M := model prog w)
  have L1 := looks_findIn (M := model prog w) X hfz
  have hbag : h.get? dx = some (bagF w tk0 v0) := by have := I.dict; rw [hdx] at this; exact this
  have ha : ∀ tk, argsOk "object.__setattr__" ⟨.ref x :: [.str "_frozen" tk, v], []⟩ := fun _ => ar_sa _ _ _
  unfold setAttr
  refine wpAny_bind (wpAny_mkText ?_)
  refine wpAny_bind ?_
  unfold callSpecial?
  refine wpAny_bind (special_inst X I hsa ?_)
  refine wpAny_holding (wpAny_bind (wpAny_of_eq (slot_sa.bind _) ?_))
  refine wpAny_bind ?_
  refine call_on I slot_sa.plain en_sa (.inl kd_sa) sp_sa (ha _) (looks_mroIn X hin) ?_
  unfold Builtin.«object.__setattr__»
  dsimp only
  refine wpAny_bind (refuse_ok L0 LC ?_)
  refine wpAny_bind (wpAny_of_eq (a := ("_frozen" : Str)) (by first | rfl | kernel_rfl) ?_)
  refine wpAny_bind (L0.at ?_)
  refine wpAny_bind (L1.at ?_)
  refine wpAny_bind (wpAny_of_eq (a := none) rfl ?_)
  dsimp only
  unfold Builtin.ObjectAttr.storeInOwnDict
  refine wpAny_bind (wpAny_of_eq (a := ()) rfl ?_)
  refine wpAny_bind ?_
  unfold Builtin.ObjectAttr.ownDictForStores
  dsimp only
  unfold instanceDict
  refine wpAny_bind (wpAny_loadPart_at I.at_ ?_)
  rw [I.cls]
  dsimp only
  refine wpAny_bind ((looks_clsIn X hc).at ?_)
  simp only [hh, hdx]
  refine wpAny_pure (a := some dx) ?_
  dsimp only
  unfold Builtin.ObjectAttr.storeInDict
  refine wpAny_bind (wpAny_of_eq (a := ()) rfl ?_)
  refine wpAny_bind ?_
  unfold nsSet
  refine wpAny_bind (wpAny_bind (wpAny_askSetting (wpAny_pure (wpAny_bind (wpAny_mkText (wpAny_bind (wpAny_loadPart hbag ?_)))))))
  simp only [bagF]
  rw [show aRefKeyMayBeTheName (Str.ofString "_frozen") #[{ hash := PyData.keyHash w.params (Str.ofString "_frozen"), key := .str (Str.ofString "_frozen") tk0, val := v0 }] = false from by rfl]
  refine wpAny_updatePart hbag ?_
  have hD : (h.update dx (Obj.putName (Str.ofString "_frozen") (PyData.keyHash w.params (Str.ofString "_frozen")) (.str (Str.ofString "_frozen") (t + 1)) v)).get? dx = some (bagF w tk0 v) := by
    rw [Heap.get?_update_self _ hbag rfl, bagF_eq2]
  refine wpAny_bind (wpAny_lookBehind hD (pastItsLine_dict (by rw [sizeLine_eq]; simp)) ?_)
  exact wpAny_pure ⟨_, rfl, wpAny_pure (wpAny_pure (hq _ _ (Heap.SameBut.update ..) hD))⟩
end
end
section
theorem freeze3_ct : ∀ {w : World} {dp un : Nat} {fr : Option (List Env)} {gd : Option (List Code)} {s : Shared} {Q E : Value → Shared → Prop} {x dx f : Addr} {kids : List Kid} {n : Nat} {cc : Addr} {oc' : Obj} {v0 : Value} {tk1 : Tok}
   {p loose mean mg mb} {g : Heap}
   (X : (K1 w.params).In g) (TT : Top p loose mean mg mb g) (CH : CodeHd g 61 57) (U : Under g s.heap [(x, foldObj w 65 dx f kids n), (dx, bagF w tk1 v0), (57, tabObj #[rawInt 12, rawInt 23, .ref cc]), (cc, oc')]) (hdp : dp + 15 < 1000) (hu : un + 60 < 9900)
   (hxd : @Ne Nat x dx) (hx57 : @Ne Nat x 57) (hd57 : @Ne Nat dx 57) (hcc : @Ne Nat cc dx)
   (hQ : ∀ lam c co ctv tk0 h₂ tk₂, Under g h₂ [(lam, lamObj (inClass (stAt 3) 1) lamQual c ((mg "__name__").getD .none) cc ctv), (c, co), (x, foldObj w 65 dx f kids n), (dx, bagF w tk0 (.ref lam)), (57, tabObj #[rawInt 12, rawInt 23, .ref cc]), (cc, oc')] →
      co.data = .cell (some (.ref x)) → @LT.lt Nat _ c lam → @LT.lt Nat _ x lam → @LT.lt Nat _ dx lam → @LT.lt Nat _ 57 lam → @LT.lt Nat _ cc lam →
      @Ne Nat x c → @Ne Nat dx c → @Ne Nat 57 c → @Ne Nat cc c → s.heap.get? c = none → Q .none { s with heap := h₂, toks := tk₂ })
   , wpAny (model PySem.Challenge.rw_il0142_01.row.prog w) (Ar dp un fr gd) (call (.ref 62) [.ref x]) Q E s := by
  k_fill
  intro w dp un fr gd s Q E x dx f kids n cc oc' v0 tk1 p loose mean mg mb g X TT CH U hdp hu hxd hx57 hd57 hcc hQ
  have T := topRead_of TT
  refine' enterC [(Str.ofString "self", .ref x)] (Str.ofString "self") (.ref x) ?X ?T ?U ?ho ?hcd ?hroom ?hbind ?hcs ?hkind ?hval ?_ ?hco ?hgen ?hk
  case X => assumption
  case T => assumption
  case U => assumption
  case ho => k_is
  case hcd => k_is
  case hroom => exact roomE (by assumption)
  case hbind => exact rfl
  case hcs => exact fun _ => rfl
  case hkind => (intro y hy; rw [List.mem_singleton.mp hy]; exact .inr ⟨rfl, rfl⟩)
  case hval => exact fun _ => rfl
  case hco => exact rfl
  case hgen => exact rfl
  case hk => exact rfl
  intro L' c h₁ tk o Fa Na hod k₁ hc
  obtain ⟨oc, od, odt, osl⟩ := o
  dsimp only at hod
  subst hod
  try dsimp only
  k_fold
  refine wpAny_execs_cons ?_
  refine plainObj_wpAny_Assign_Attribute ?_ (by with_unfolding_all rfl)
  have hcn : AllNe c [(x, foldObj w 65 dx f kids n), (dx, bagF w tk1 v0), (57, tabObj #[rawInt 12, rawInt 23, .ref cc]), (cc, oc')] := allNe_of fun p hp e => by rw [← e, (U.at_ p hp).1] at hc; cases hc
  simp only [AllNe] at hcn
  refine kla_eval rfl ?_
  refine' kla_hit (ps := #[rawInt 12, rawInt 23, .ref cc]) (c' := cc) Fa Na TT CH ?cd ?mem ?trip ?among ?cl ?_
  case cd => exact rfl
  case mem => exact .tail _ (.tail _ (.tail _ (.head _)))
  case trip => exact trip1 cc
  case among => exact among1 cc
  case cl => exact rfl
  intro f' ct' h' tk' F' N' l1
  (try dsimp only at N')
  clear Fa Na
  refine wpAny_Name (wpAny_loadName_cell rfl rfl (c := c) (by first | rfl | simp) ⟨_, News.get N' (.tail _ (.head _)), rfl⟩ ?_) (by decide)
  have X' : (K1 w.params).In h' := X.keeps F'.keep
  have I' : InstAt h' x (foldObj w 65 dx f kids n) 65 (some (bagF w tk1 v0)) := ⟨(N' (x, foldObj w 65 dx f kids n) (by k_mem)).1, rfl, rfl, (N' (dx, bagF w tk1 v0) (by k_mem)).1⟩
  have LC : Looks (model PySem.Challenge.rw_il0142_01.row.prog w) h' (mroOf (.ref 65)) (.ref 65 :: bmD) := by
    have hc : ∃ cd, clsIn (K1 w.params) 65 = some cd ∧ cd.mro = .ref 65 :: bmD := ⟨_, by k_is, rfl⟩
    obtain ⟨cd, hc, hm⟩ := hc
    rw [← hm]
    exact fun A Q E s k q => wpAny_bind ((looks_clsIn X' hc) A _ E s k (wpAny_pure q))
  refine set_frozen2 X' I' rfl (by k_is) (by k_is) (by k_is) LC (by k_is) rfl (fun h₂ tk₂ hs hb => ?_)
  refine wpAny_execs_nil ?_
  have a1 : @LT.lt Nat _ c f' := l1 _ (.head _)
  have a2 : @LT.lt Nat _ x f' := l1 _ (.tail _ (.head _))
  have a3 : @LT.lt Nat _ dx f' := l1 _ (.tail _ (.tail _ (.head _)))
  have a4 : @LT.lt Nat _ 57 f' := l1 _ (.tail _ (.tail _ (.tail _ (.head _))))
  have a5 : @LT.lt Nat _ cc f' := l1 _ (.tail _ (.tail _ (.tail _ (.tail _ (.head _)))))
  have oth : ∀ b o, @Ne Nat b dx → (b, o) ∈ _ → h₂.get? b = some o ∧ g.get? b = none := fun b o hne hm => ⟨(hs.2 b hne).trans (N' (b, o) hm).1, (N' (b, o) hm).2.2⟩
  refine hQ f' c { cls := oc, dict := od, data := .cell (some (.ref x)), slots := osl } ct' tk1 h₂ tk₂ ⟨fun b o e => ?_, ?_, fun p hp => ?_⟩ rfl a1 a2 a3 a4 a5 hcn.1 hcn.2.1 hcn.2.2.1 hcn.2.2.2.1 hc
  · exact (hs.2 b (fun e2 => by rw [e2, (N' (dx, bagF w tk1 v0) (by k_mem)).2.2] at e; cases e)).trans (F'.keep b o e)
  · rw [hs.1]; exact Nat.le_of_lt (Nat.lt_of_le_of_lt F'.above F'.ns.lt)
  · simp only [List.mem_cons, List.not_mem_nil, or_false] at hp
    rcases hp with rfl | rfl | rfl | rfl | rfl | rfl
    · exact oth _ _ (by omega) (.head _)
    · exact oth _ _ (by omega) (.tail _ (.head _))
    · exact oth _ _ (by omega) (.tail _ (.tail _ (.head _)))
    · exact ⟨hb, (N' (dx, bagF w tk1 v0) (by k_mem)).2.2⟩
    · exact oth _ _ (by omega) (.tail _ (.tail _ (.tail _ (.tail _ (.head _)))))
    · exact oth _ _ (by omega) (.tail _ (.tail _ (.tail _ (.tail _ (.tail _ (.head _))))))
end
section
set_option maxHeartbeats 400000
/-- the signs of a text -/
noncomputable abbrev C (x : Str) : List Nat := x.cps.toList
noncomputable abbrev mkS (l : List Nat) : Str := ⟨l.toArray⟩
noncomputable abbrev sl : Str := Str.ofString "/"
theorem C_inj {x y : Str} (h : C x = C y) : x = y := by
  refine PySem.Str.ext' ?_
  exact Array.toList_inj.mp h
theorem C_app (x y : Str) : C (x ++ y) = C x ++ C y := by
  show (x ++ y).cps.toList = _
  rw [PySem.Str.cps_append, Array.toList_append]
theorem C_sl : C sl = [47] := by decide +kernel
theorem sl_eq : sl = ⟨#[47]⟩ := by decide +kernel
theorem C_mk (l : List Nat) : C (mkS l) = l := by simp [C, mkS]
theorem mk_C (x : Str) : mkS (C x) = x := C_inj (C_mk _)
theorem C_len (x : Str) : (C x).length = x.length := by simp [C, PySem.Str.length]
theorem C_empty : C Str.empty = [] := by decide +kernel
theorem C_to (x : Str) (i : Nat) (h : i ≤ x.length) : C (Txt.slice x none (some (i : Int))) = (C x).take i := by
  have e : Txt.slice x none (some (i : Int)) = _ := StrLaws.sliceText_to (x := x) (j := i) ⟨by omega, by show (i : Int) ≤ ((C x).length : Nat); rw [C_len]; omega⟩
  rw [e]
  simp [C]
theorem C_from (x : Str) (i : Nat) (h : i ≤ x.length) : C (Txt.slice x (some (i : Int)) none) = (C x).drop i := by
  have e : Txt.slice x (some (i : Int)) none = _ := StrLaws.sliceText_from (x := x) (i := i) ⟨by omega, by show (i : Int) ≤ ((C x).length : Nat); rw [C_len]; omega⟩
  rw [e]
  show C (mkS _) = _
  rw [C_mk]
  have : (((C x).length : Int) - (i : Int)).toNat = (C x).length - i := Int.toNat_sub _ _
  rw [show ((x.cps.toList.length : Int) - (i : Int)).toNat = (C x).length - i from this, Int.toNat_natCast]
  exact List.take_of_length_le (by simp)
theorem C_mid (x : Str) (i j : Nat) (hij : i ≤ j) (h : j ≤ x.length) : C (Txt.slice x (some (i : Int)) (some (j : Int))) = ((C x).drop i).take (j - i) := by
  have e : Txt.slice x (some (i : Int)) (some (j : Int)) = _ := StrLaws.sliceText_plain (x := x) (i := i) (j := j) ⟨by omega, by omega, by show (j : Int) ≤ ((C x).length : Nat); rw [C_len]; omega⟩
  rw [e]
  show C (mkS _) = _
  rw [C_mk]
  have : ((j : Int) - (i : Int)).toNat = j - i := Int.toNat_sub _ _
  rw [this, Int.toNat_natCast]
theorem starts_iff (b : Str) : Txt.startswith b sl = true ↔ (C b).head? = some 47 := by
  have h := StrLaws.subAt_one b 47 0
  unfold Txt.startswith
  rw [sl_eq, Bool.and_eq_true, decide_eq_true_eq, h]
  rw [List.head?_eq_getElem?]
theorem ends_iff (b : Str) : Txt.endswith b sl = true ↔ (C b).getLast? = some 47 := by
  unfold Txt.endswith
  rw [sl_eq, Bool.and_eq_true, decide_eq_true_eq]
  have hl := C_len b
  have e1 : (⟨#[47]⟩ : Str).length = 1 := rfl
  rw [e1]
  by_cases h0 : (C b).length = 0
  · have : C b = [] := List.eq_nil_of_length_eq_zero h0
    rw [this]; simp; omega
  · have h := StrLaws.subAt_one b 47 (b.length - 1)
    rw [e1] at h
    rw [List.getLast?_eq_getElem?, hl]
    have hp : 1 ≤ b.length := Nat.pos_of_ne_zero (hl ▸ h0)
    constructor
    · intro ⟨_, b2⟩; exact h.mp ⟨by rw [Nat.sub_add_cancel hp]; exact Nat.le_refl _, b2⟩
    · intro k; exact ⟨hp, (h.mpr k).2⟩
theorem rfind_at {x : Str} {p n : List Nat} (hx : C x = p ++ 47 :: n) (hn : 47 ∉ n) : Txt.rfind x sl = (p.length : Int) := by
  unfold Txt.rfind
  have hat : ∀ i, StrLaws.At x sl x.length i ↔ (C x)[i]? = some 47 := fun i => by
    rw [sl_eq]; exact StrLaws.subAt_one x 47 i
  have key : ∀ i, (C x)[i]? = some 47 → i ≤ p.length := by
    intro i hi
    rcases Nat.lt_or_ge p.length i with h | h
    · exfalso
      rw [hx, List.getElem?_append_right (Nat.le_of_lt h)] at hi
      obtain ⟨k, hk⟩ : ∃ k, i - p.length = k + 1 := ⟨i - p.length - 1, (Nat.sub_add_cancel (Nat.sub_pos_of_lt h)).symm⟩
      rw [hk, List.getElem?_cons_succ] at hi
      exact hn (List.mem_of_getElem? hi)
    · exact h
  have hp : (C x)[p.length]? = some 47 := by rw [hx]; simp
  rcases StrLaws.last_spec x sl with ⟨h1, h2⟩ | ⟨i, h1, h2, h3⟩
  · exact absurd ((hat _).mpr hp) (h2 _)
  · rw [h1]
    have a := key i ((hat i).mp h2)
    have b : ¬ i < p.length := fun h => h3 _ h ((hat _).mpr hp)
    rw [Nat.le_antisymm a (Nat.not_lt.mp b)]
theorem rstrip_at {x : Str} {p : List Nat} {k : Nat} (hx : C x = p ++ List.replicate k 47) (hp : p.getLast? ≠ some 47) : C (Txt.rstripChars x sl) = p := by
  unfold Txt.rstripChars
  rw [PyProof.Rows.stripBy_eq]
  have hlo : stripLo sl.cps.contains false x = 0 := rfl
  rw [hlo]
  obtain ⟨_, h0, h1, h2⟩ := hi_facts sl.cps.contains x 0 (Nat.zero_le _)
  generalize stripHi sl.cps.contains true x 0 = hi at h0 h1 h2
  have hlen : x.length = p.length + k := by rw [← C_len, hx]; simp
  have hg : ∀ c, sl.cps.contains c = true ↔ c = 47 := fun c => by
    rw [sl_eq]; simp
  have hget : ∀ j, x.cps.getD j 0 = (C x).getD j 0 := fun j => by
    simp [C, List.getD_eq_getElem?_getD]
  have hpl : hi = p.length := by
    rcases Nat.lt_trichotomy hi p.length with h | h | h
    · exfalso
      have := h1 (p.length - 1) (by omega) (by omega)
      rw [hg, hget, hx, List.getD_eq_getElem?_getD, List.getElem?_append_left (by omega)] at this
      apply hp
      rw [List.getLast?_eq_getElem?]
      rw [List.getElem?_eq_getElem (by omega)] at this
      rw [List.getElem?_eq_getElem (by omega)]
      simpa using this
    · exact h
    · exfalso
      rcases h2 with h2 | h2
      · omega
      · have e : x.cps.getD (hi - 1) 0 = 47 := by
          rw [hget, hx, List.getD_eq_getElem?_getD, List.getElem?_append_right (by omega), List.getElem?_replicate, if_pos (by omega)]
          rfl
        rw [e] at h2
        have : sl.cps.contains 47 = true := (hg 47).mpr rfl
        rw [this] at h2; cases h2
  show (Builtin.Str.strSub x 0 hi).cps.toList = p
  rw [StrLaws.strSub_toList, hpl]
  show ((C x).drop 0).take (p.length - 0) = p
  rw [hx]; simp
end
section
set_option maxHeartbeats 400000
/-- cut at each slash -/
noncomputable def sp : List Nat → List (List Nat)
  | [] => [[]]
  | c :: r => if c = 47 then [] :: sp r else match sp r with
    | h :: t => (c :: h) :: t
    | [] => [[c]]
theorem sp_ne (l : List Nat) : sp l ≠ [] := by
  cases l with
  | nil => simp [sp]
  | cons c r =>
    rw [sp]
    split
    · simp
    · split <;> simp
theorem sp_free {p : List Nat} (h : 47 ∉ p) : sp p = [p] := by
  induction p with
  | nil => rfl
  | cons c r ih =>
    have h1 : c ≠ 47 := fun e => h (by rw [e]; exact .head _)
    have h2 : 47 ∉ r := fun e => h (.tail _ e)
    rw [sp, if_neg h1, ih h2]
theorem sp_slash (a b : List Nat) : sp (a ++ 47 :: b) = sp a ++ sp b := by
  induction a with
  | nil => simp [sp]
  | cons c r ih =>
    by_cases hc : c = 47
    · simp [sp, hc, ih]
    · simp only [List.cons_append, sp, if_neg hc, ih]
      cases hs : sp r with
      | nil => exact absurd hs (sp_ne r)
      | cons h t => simp
noncomputable def joinL : List (List Nat) → List Nat
  | [] => []
  | [p] => p
  | p :: q :: r => p ++ 47 :: joinL (q :: r)
theorem C_join (ps : List Str) : C (Str.join sl ps) = joinL (ps.map C) := by
  match ps with
  | [] => exact C_empty
  | [p] => rfl
  | p :: q :: r =>
    show C (p ++ sl ++ Str.join sl (q :: r)) = _
    rw [C_app, C_app, C_sl, C_join (q :: r)]
    simp [joinL]
theorem sp_join : ∀ ps : List (List Nat), ps ≠ [] → (∀ p ∈ ps, 47 ∉ p) → sp (joinL ps) = ps
  | [], h, _ => absurd rfl h
  | [p], _, h => sp_free (h p (.head _))
  | p :: q :: r, _, h => by
    show sp (p ++ 47 :: joinL (q :: r)) = _
    rw [sp_slash, sp_free (h p (.head _)), sp_join (q :: r) (by simp) fun x hx => h x (.tail _ hx)]
    rfl
theorem split_ne (x : Str) : Txt.split x sl ≠ [] := by
  unfold Txt.split
  split
  · simp
  · split
    · simp
    · rename_i h
      intro e
      have := StrLaws.join_split x sl
      unfold Txt.split at this
      rename_i h0
      rw [if_neg h0, if_neg h, e] at this
      have hx : C x = [] := by rw [← this]; exact C_empty
      have hl : x.length = 0 := by rw [← C_len, hx]; rfl
      apply h0
      rw [Bool.or_eq_true, decide_eq_true_eq]
      left
      rw [hl]; decide +kernel
theorem split_sp (x : Str) : (Txt.split x sl).map C = sp (C x) := by
  have h1 := StrLaws.join_split x sl
  have h2 : ∀ p ∈ (Txt.split x sl).map C, 47 ∉ p := by
    intro p hp
    obtain ⟨q, hq, rfl⟩ := List.mem_map.mp hp
    rw [sl_eq] at hq
    exact StrLaws.split_free x 47 q hq
  have h3 := sp_join ((Txt.split x sl).map C) (by simpa using split_ne x) h2
  rw [← C_join, h1] at h3
  exact h3.symm
theorem split_eq (x : Str) : Txt.split x sl = (sp (C x)).map mkS := by
  rw [← split_sp, List.map_map]
  conv => lhs; rw [← List.map_id (Txt.split x sl)]
  exact List.map_congr_left fun y _ => (mk_C y).symm
/-- the parts of a path, as normpath reckons them -/
noncomputable def comps (x : Str) : List Str := (Txt.split x sl).foldl normStep []
theorem foldNorm_sp (cs : List Str) (x : Str) : (Txt.split x sl).foldl normStep cs = ((sp (C x)).map mkS).foldl normStep cs := by rw [split_eq]
theorem normStep_empty (cs : List Str) : normStep cs (mkS []) = cs := normStep_skip (.inl (by decide))
theorem comps_join {p b : Str} (hp : C p ≠ []) :
    comps (joinStep p b) = if (C b).head? = some 47 then comps b else (Txt.split b sl).foldl normStep (comps p) := by
  unfold joinStep
  rw [show Str.ofString "/" = sl from rfl]
  by_cases hb : (C b).head? = some 47
  · rw [if_pos (.inl ((starts_iff b).mpr hb)), if_pos hb]
  · have h0 : p.length ≠ 0 := by rw [← C_len]; intro e; exact hp (List.eq_nil_of_length_eq_zero e)
    rw [if_neg (by rw [starts_iff]; intro h; exact h.elim hb h0), if_neg hb]
    by_cases he : (C p).getLast? = some 47
    · rw [if_pos ((ends_iff p).mpr he)]
      obtain ⟨q, hq⟩ : ∃ q, C p = q ++ [47] := by
        rcases List.eq_nil_or_concat (C p) with e | ⟨q, c, e⟩
        · exact absurd e hp
        · rw [List.concat_eq_append] at e
          rw [e] at he
          have : c = 47 := by simpa using he
          exact ⟨q, by rw [e, this]⟩
      unfold comps
      rw [split_eq (p ++ b), split_eq p, split_eq b, C_app, hq]
      rw [show q ++ [47] ++ C b = q ++ 47 :: C b by simp, sp_slash, show q ++ [47] = q ++ 47 :: [] by simp, sp_slash]
      simp only [List.map_append, List.foldl_append]
      rw [show sp [] = [[]] from rfl]
      simp only [List.map_cons, List.map_nil, List.foldl_cons, List.foldl_nil, normStep_empty]
    · rw [if_neg (by rw [ends_iff]; exact he)]
      unfold comps
      rw [split_eq (p ++ (sl ++ b)), split_eq p, split_eq b, C_app, C_app, C_sl]
      rw [show C p ++ ([47] ++ C b) = C p ++ 47 :: C b by simp, sp_slash]
      simp only [List.map_append, List.foldl_append]
end
section
set_option maxHeartbeats 400000
noncomputable abbrev dot : Str := Str.ofString "."
noncomputable abbrev dd : Str := Str.ofString ".."
structure NameOk (n : Str) : Prop where
  ne : C n ≠ []
  free : 47 ∉ C n
  nd : n ≠ dot
  ndd : n ≠ dd
noncomputable abbrev NamesOk (ns : List Str) : Prop := ∀ n ∈ ns, NameOk n
noncomputable def pathR (r : Str) (ns : List Str) : Str := r ++ Str.join sl ns
noncomputable def RootOk (r : Str) : Prop := r = sl ∨ r = Str.ofString "//"
theorem C_dsl : C (Str.ofString "//") = [47, 47] := by decide +kernel
theorem C_root {r : Str} (h : RootOk r) : ∃ k, C r = List.replicate (k + 1) 47 ∧ k ≤ 1 := by
  rcases h with rfl | rfl
  · exact ⟨0, C_sl, by omega⟩
  · exact ⟨1, C_dsl, by omega⟩
theorem joinL_snoc : ∀ (ps : List (List Nat)) (n : List Nat), ps ≠ [] → joinL (ps ++ [n]) = joinL ps ++ 47 :: n
  | [], _, h => absurd rfl h
  | [p], n, _ => rfl
  | p :: q :: r, n, _ => by
    show p ++ 47 :: joinL ((q :: r) ++ [n]) = (p ++ 47 :: joinL (q :: r)) ++ 47 :: n
    rw [joinL_snoc (q :: r) n (by simp)]; simp
theorem joinL_last {ns : List Str} (h : NamesOk ns) (hne : ns ≠ []) : (joinL (ns.map C)).getLast? ≠ some 47 := by
  rcases lsnoc ns with rfl | ⟨a, b, rfl⟩
  · exact absurd rfl hne
  · have hb := h b (by simp)
    have key : ∀ q : List Nat, (q ++ C b).getLast? ≠ some 47 := fun q => by
      rcases lsnoc (C b) with e | ⟨u, c, e⟩
      · exact absurd e hb.ne
      · rw [e, ← List.append_assoc, List.getLast?_append]
        intro hc
        have hc2 : c = 47 := by simpa using hc
        apply hb.free
        rw [e, hc2]; simp
    cases a with
    | nil => simpa [joinL] using key []
    | cons a r =>
      rw [List.map_append, List.map_singleton, joinL_snoc _ _ (by simp)]
      have := key (joinL ((a :: r).map C) ++ [47])
      simpa using this
theorem C_path (r : Str) (ns : List Str) : C (pathR r ns) = C r ++ joinL (ns.map C) := by
  unfold pathR
  rw [C_app, C_join]
theorem path_ne {r : Str} (h : RootOk r) (ns : List Str) : C (pathR r ns) ≠ [] := by
  obtain ⟨k, hk, _⟩ := C_root h
  rw [C_path, hk]; simp [List.replicate_succ]
theorem path_len0 {r : Str} (h : RootOk r) (ns : List Str) : (pathR r ns).length ≠ 0 := by
  rw [← C_len]
  intro e
  exact path_ne h ns (List.eq_nil_of_length_eq_zero e)
theorem mul_sl (k : Nat) : C (Txt.mul sl (k : Int)) = List.replicate k 47 := by
  unfold Txt.mul
  by_cases h : (k : Int) < 1
  · have : k = 0 := by omega
    rw [if_pos h, this]; exact C_empty
  · rw [if_neg h]
    by_cases h2 : k = 1
    · rw [if_pos (by rw [h2]; rfl), C_sl, h2]; rfl
    · rw [if_neg (by have : sl.length = 1 := slash_len; rw [this]; simp; omega)]
      show ((List.replicate (k : Int).toNat sl.cps).foldl (· ++ ·) #[]).toList = _
      rw [Int.toNat_natCast, show sl.cps = #[47] from by rw [sl_eq]]
      have key : ∀ (k : Nat) (a : Array Nat), ((List.replicate k (#[47] : Array Nat)).foldl (· ++ ·) a).toList = a.toList ++ List.replicate k 47 := by
        intro k
        induction k with
        | zero => intro a; simp
        | succ k ih => intro a; rw [List.replicate_succ, List.foldl_cons, ih]; simp [List.replicate_succ]
      rw [key]; simp
theorem bne_iff {a b : Str} : (a != b) = true ↔ a ≠ b := by simp
theorem splitS_of {x : Str} {p n : List Nat} (hx : C x = p ++ 47 :: n) (hn : 47 ∉ n) :
    splitS x = (if p ++ [47] = List.replicate (p.length + 1) 47 then mkS (p ++ [47]) else Txt.rstripChars (mkS (p ++ [47])) sl, mkS n) := by
  have hlen : x.length = p.length + 1 + n.length := by rw [← C_len, hx]; simp; omega
  have hi : Txt.rfind x (Str.ofString "/") + 1 = ((p.length + 1 : Nat) : Int) := by rw [show Str.ofString "/" = sl from rfl, rfind_at hx hn]; omega
  have hh : Txt.slice x none (some ((p.length + 1 : Nat) : Int)) = mkS (p ++ [47]) := C_inj (by rw [C_to _ _ (by omega), hx, C_mk]; simp [List.take_append]; exact List.take_of_length_le (by omega))
  have ht : Txt.slice x (some ((p.length + 1 : Nat) : Int)) none = mkS n := C_inj (by rw [C_from _ _ (by omega), hx, C_mk]; simp [List.drop_append])
  unfold splitS
  rw [hi]
  dsimp only
  rw [hh, ht]
  have hl : (mkS (p ++ [47])).length = p.length + 1 := by rw [← C_len, C_mk]; simp
  rw [hl, if_neg (by omega)]
  have hm : Txt.mul sl ((p.length + 1 : Nat) : Int) = mkS (List.replicate (p.length + 1) 47) := C_inj (by rw [mul_sl, C_mk])
  rw [show Str.ofString "/" = sl from rfl, hm]
  by_cases e : p ++ [47] = List.replicate (p.length + 1) 47
  · rw [if_pos e, if_neg (by rw [e]; simp)]
  · rw [if_neg e, if_pos (by rw [bne_iff]; intro h; exact e (by have := congrArg C h; rwa [C_mk, C_mk] at this))]
theorem splitS_root {r : Str} (h : RootOk r) : splitS (pathR r []) = (pathR r [], Str.empty) := by
  obtain ⟨k, hk, hk1⟩ := C_root h
  have hx : C (pathR r []) = List.replicate k 47 ++ 47 :: [] := by
    rw [C_path, hk]
    simp only [List.map_nil, joinL, List.append_nil]
    rw [List.replicate_succ']
  rw [splitS_of hx (by simp)]
  rw [List.length_replicate, if_pos (by rw [List.replicate_succ'])]
  refine Prod.ext (C_inj ?_) (C_inj ?_)
  · dsimp only; rw [C_mk, hx]
  · dsimp only; rw [C_mk]; exact C_empty.symm
theorem joinL_ne {ps : List (List Nat)} (h : ∀ p ∈ ps, p ≠ []) (hne : ps ≠ []) : joinL ps ≠ [] := by
  match ps with
  | [] => exact absurd rfl hne
  | [p] => exact h p (.head _)
  | p :: q :: r => simp [joinL]
theorem splitS_snoc {r : Str} (h : RootOk r) {ns : List Str} {n : Str} (ok : NamesOk (ns ++ [n])) : splitS (pathR r (ns ++ [n])) = (pathR r ns, n) := by
  obtain ⟨k, hk, hk1⟩ := C_root h
  have okn := ok n (by simp)
  have oks : NamesOk ns := fun m hm => ok m (by simp [hm])
  cases hns : ns with
  | nil =>
    have hx : C (pathR r ([] ++ [n])) = List.replicate k 47 ++ 47 :: C n := by
      rw [C_path, hk, List.replicate_succ']; simp [joinL]
    rw [splitS_of hx okn.free, List.length_replicate, if_pos (by rw [List.replicate_succ'])]
    refine Prod.ext (C_inj ?_) (mk_C n)
    dsimp only
    rw [C_mk, C_path, hk, List.replicate_succ']; simp [joinL]
  | cons a b =>
    rw [← hns]
    have hne : ns.map C ≠ [] := by rw [hns]; simp
    have hx : C (pathR r (ns ++ [n])) = (C r ++ joinL (ns.map C)) ++ 47 :: C n := by
      rw [C_path, List.map_append, List.map_singleton, joinL_snoc _ _ hne]; simp
    have hlast : (C r ++ joinL (ns.map C)).getLast? ≠ some 47 := by
      rw [List.getLast?_append]
      have h1 := joinL_last oks (by rw [hns]; simp)
      have h2 : joinL (ns.map C) ≠ [] := joinL_ne (fun p hp => by obtain ⟨q, hq, rfl⟩ := List.mem_map.mp hp; exact (oks q hq).ne) hne
      cases e : (joinL (ns.map C)).getLast? with
      | none => exact absurd (List.getLast?_eq_none_iff.mp e) h2
      | some c => rw [e] at h1; simpa using h1
    rw [splitS_of hx okn.free, if_neg ?_]
    · refine Prod.ext (C_inj ?_) (mk_C n)
      dsimp only
      rw [rstrip_at (k := 1) (by rw [C_mk]; rfl) hlast, C_path]
    · intro e
      apply hlast
      have e2 : C r ++ joinL (ns.map C) = List.replicate (C r ++ joinL (ns.map C)).length 47 := by
        have := congrArg List.dropLast e
        simpa [List.dropLast_concat, List.replicate_succ'] using this
      rw [e2, hk]
      generalize hL : (List.replicate (k + 1) 47 ++ joinL (ns.map C)).length = m
      have : m ≠ 0 := by rw [← hL]; simp
      cases m with
      | zero => exact absurd rfl this
      | succ m => rw [List.replicate_succ']; simp

theorem normStep_ok (cs : List Str) {n : Str} (h : NameOk n) : normStep cs n = cs ++ [n] :=
  normStep_in (by have := h.ne; intro e; exact this (List.eq_nil_of_length_eq_zero (by rw [C_len]; omega))) (by simpa using h.nd) (by simpa using h.ndd)
theorem foldNorm_ok : ∀ (ns cs : List Str), NamesOk ns → ns.foldl normStep cs = cs ++ ns
  | [], cs, _ => by simp
  | n :: r, cs, h => by
    rw [List.foldl_cons, normStep_ok cs (h n (.head _)), foldNorm_ok r _ fun m hm => h m (.tail _ hm)]
    simp
theorem foldNorm_skip : ∀ (ps : List (List Nat)) (cs : List Str), (∀ p ∈ ps, p = []) → (ps.map mkS).foldl normStep cs = cs
  | [], _, _ => rfl
  | p :: r, cs, h => by
    rw [List.map_cons, List.foldl_cons, h p (.head _), normStep_empty]
    exact foldNorm_skip r cs fun q hq => h q (.tail _ hq)
theorem sp_rep (k : Nat) (b : List Nat) : sp (List.replicate k 47 ++ b) = List.replicate k [] ++ sp b := by
  induction k with
  | zero => rfl
  | succ k ih => simp [List.replicate_succ, sp, ih]
theorem comps_path {r : Str} (h : RootOk r) {ns : List Str} (ok : NamesOk ns) : comps (pathR r ns) = ns := by
  obtain ⟨k, hk, hk1⟩ := C_root h
  unfold comps
  rw [split_eq, C_path, hk, sp_rep, List.map_append, List.foldl_append, foldNorm_skip _ _ (fun p hp => (List.mem_replicate.mp hp).2)]
  cases hns : ns with
  | nil => simp [joinL, sp, normStep_empty]
  | cons a b =>
    rw [← hns, sp_join (ns.map C) (by rw [hns]; simp) (fun p hp => by obtain ⟨q, hq, rfl⟩ := List.mem_map.mp hp; exact (ok q hq).free), List.map_map]
    have : ns.map (mkS ∘ C) = ns := by
      conv => rhs; rw [← List.map_id ns]
      exact List.map_congr_left fun y _ => mk_C y
    rw [this, foldNorm_ok ns [] ok]; rfl
theorem path_inj {r : Str} (h : RootOk r) {a b : List Str} (ha : NamesOk a) (hb : NamesOk b) (e : pathR r a = pathR r b) : a = b := by
  rw [← comps_path h ha, e, comps_path h hb]

open Classical in
noncomputable def rootOf (x : Str) : Str := if ∃ r, C x = 47 :: 47 :: r ∧ r.head? ≠ some 47 then Str.ofString "//" else sl
theorem rootOf_ok (x : Str) : RootOk (rootOf x) := by
  unfold rootOf
  split
  · exact .inr rfl
  · exact .inl rfl
theorem str_eq_iff {a b : Str} : a = b ↔ C a = C b := ⟨congrArg C, C_inj⟩
theorem slice1 (x : Str) : C (Txt.slice x none (some 1)) = (C x).take 1 := by
  by_cases h : 1 ≤ x.length
  · exact C_to x 1 h
  · have h0 : x.length = 0 := by omega
    have e0 : C x = [] := List.eq_nil_of_length_eq_zero (by rw [C_len, h0])
    have hl := Txt.slice_le x none (some 1)
    have : C (Txt.slice x none (some 1)) = [] := List.eq_nil_of_length_eq_zero (by rw [C_len]; omega)
    rw [this, e0]; rfl
theorem C_slice {x y : Str} {l u : Option Int} (h : Txt.slice x l u = y) : C (Txt.slice x l u) = C y := by rw [h]
theorem root_cases {x : Str} (hx : (C x).head? = some 47) :
    (rootS x = (rootOf x, (rootS x).2)) ∧ ∃ k, C x = List.replicate k 47 ++ C (rootS x).2 := by
  obtain ⟨r, hr⟩ : ∃ r, C x = 47 :: r := by
    cases e : C x with
    | nil => rw [e] at hx; cases hx
    | cons a r => rw [e] at hx; exact ⟨r, by simp at hx; rw [hx]⟩
  have hl : x.length = r.length + 1 := by rw [← C_len, hr]; rfl
  have h1 : Txt.slice x none (some 1) = sl := C_inj (by rw [slice1, hr, C_sl]; rfl)
  have hd : C (Txt.slice x (some 1) none) = r := by
    have := C_from x 1 (by omega)
    rw [hr] at this; exact this
  have h12 : C (Txt.slice x (some 1) (some 2)) = r.take 1 := by
    by_cases h : 2 ≤ x.length
    · have := C_mid x 1 2 (by omega) h
      rw [hr] at this; exact this
    · have hr0 : r = [] := List.eq_nil_of_length_eq_zero (by omega)
      have hx1 : x = sl := C_inj (by rw [hr, hr0, C_sl])
      rw [hx1, hr0]; decide +kernel
  by_cases ha : (Txt.slice x (some 1) (some 2) != sl) = true
  · have hr1 : ∀ r', r ≠ 47 :: r' := fun r' e => by
      rw [bne_iff, ne_eq, str_eq_iff, h12, C_sl, e] at ha
      exact ha rfl
    have e : rootS x = (sl, Txt.slice x (some 1) none) := by
      unfold rootS
      rw [show Str.ofString "/" = sl from rfl, if_neg (by rw [h1]; simp), if_pos (.inl ha)]
    rw [e]
    refine ⟨?_, 1, by dsimp only; rw [hd, hr]; rfl⟩
    unfold rootOf
    rw [if_neg]
    rintro ⟨q, hq, _⟩
    rw [hr] at hq
    exact hr1 q (List.cons.inj hq).2
  · have ha' : Txt.slice x (some 1) (some 2) = sl := by rw [bne_iff] at ha; simpa using ha
    obtain ⟨q, hq⟩ : ∃ q, r = 47 :: q := by
      rw [str_eq_iff, h12, C_sl] at ha'
      cases r with
      | nil => cases ha'
      | cons a q => simp at ha'; exact ⟨q, by rw [ha']⟩
    have hl2 : x.length = q.length + 2 := by rw [hl, hq]; rfl
    have h23 : C (Txt.slice x (some 2) (some 3)) = q.take 1 := by
      by_cases h : 3 ≤ x.length
      · have := C_mid x 2 3 (by omega) h
        rw [hr, hq] at this; exact this
      · have hq0 : q = [] := List.eq_nil_of_length_eq_zero (by omega)
        have hx1 : x = Str.ofString "//" := C_inj (by rw [hr, hq, hq0, C_dsl])
        rw [hx1, hq0]; decide +kernel
    by_cases hb : (Txt.slice x (some 2) (some 3) == sl) = true
    · have hq1 : q.head? = some 47 := by
        rw [beq_iff_eq, str_eq_iff, h23, C_sl] at hb
        cases q with
        | nil => cases hb
        | cons a q => simp at hb; rw [hb]; rfl
      have e : rootS x = (sl, Txt.slice x (some 1) none) := by
        unfold rootS
        rw [show Str.ofString "/" = sl from rfl, if_neg (by rw [h1]; simp), if_pos (.inr hb)]
      rw [e]
      refine ⟨?_, 1, by dsimp only; rw [hd, hr]; rfl⟩
      unfold rootOf
      rw [if_neg]
      rintro ⟨q', hq', hn⟩
      rw [hr, hq] at hq'
      rw [← (List.cons.inj (List.cons.inj hq').2).2] at hn
      exact hn hq1
    · have hq1 : q.head? ≠ some 47 := fun h => hb (by
        rw [beq_iff_eq, str_eq_iff, h23, C_sl]
        cases q with
        | nil => cases h
        | cons a q => simp at h; rw [h]; rfl)
      have e : rootS x = (Txt.slice x none (some 2), Txt.slice x (some 2) none) := by
        unfold rootS
        rw [show Str.ofString "/" = sl from rfl, if_neg (by rw [h1]; simp), if_neg (by intro h; exact h.elim ha hb)]
      have e1 : Txt.slice x none (some 2) = Str.ofString "//" := C_inj (by
        have := C_to x 2 (by omega)
        rw [hr, hq] at this
        rw [C_dsl]; exact this)
      have e2 : C (Txt.slice x (some 2) none) = q := by
        have := C_from x 2 (by omega)
        rw [hr, hq] at this; exact this
      rw [e]
      refine ⟨?_, 2, by dsimp only; rw [e2, hr, hq]; rfl⟩
      dsimp only
      rw [e1]
      unfold rootOf
      rw [if_pos ⟨q, by rw [hr, hq], hq1⟩]
theorem normS_path {x : Str} (hx : (C x).head? = some 47) : normS x = pathR (rootOf x) (comps x) := by
  obtain ⟨h1, k, h2⟩ := root_cases hx
  have hc : comps x = (Txt.split (rootS x).2 sl).foldl normStep [] := by
    unfold comps
    rw [split_eq x, split_eq (rootS x).2, h2, sp_rep, List.map_append, List.foldl_append, foldNorm_skip _ _ (fun p hp => (List.mem_replicate.mp hp).2)]
  rw [hc]
  unfold normS pathR
  rw [h1]
end
section
set_option maxHeartbeats 400000
/-- one word of a step, as the law's own lines reckon it -/
noncomputable def wordStep (cs : List Str) (w : Str) : List Str := if (w == dd) = true then cs.dropLast else if (w == Str.ofString "" || w == dot) = true then cs else cs ++ [w]
theorem e_str : (Str.ofString "") = mkS [] := by decide +kernel
theorem wordStep_norm {cs : List Str} (h : NamesOk cs) (w : Str) : normStep cs w = wordStep cs w := by
  unfold wordStep
  by_cases h1 : (w == dd) = true
  · rw [if_pos h1]
    have e : w = dd := by simpa using h1
    have n1 : (w.length : Int) ≠ 0 := by rw [e]; decide +kernel
    have n2 : (w == dot) = false := by rw [e]; decide +kernel
    have n3 : (w != dd) = false := by rw [e]; decide +kernel
    rcases lsnoc cs with rfl | ⟨a, b, rfl⟩
    · exact normStep_nil n1 n2 n3
    · rw [normStep_up n1 n2 n3 (by have := (h b (by simp)).ndd; simpa using this)]; simp
  · rw [if_neg h1]
    by_cases h2 : (w == Str.ofString "" || w == dot) = true
    · rw [if_pos h2]
      refine normStep_skip ?_
      rw [Bool.or_eq_true] at h2
      rcases h2 with h2 | h2
      · left
        have e : w = Str.ofString "" := by simpa using h2
        rw [e]; decide +kernel
      · exact .inr h2
    · rw [if_neg h2]
      rw [Bool.or_eq_true, not_or] at h2
      refine normStep_in ?_ (by simpa using h2.2) (by simpa using h1)
      intro e
      apply h2.1
      have : C w = [] := List.eq_nil_of_length_eq_zero (by rw [C_len]; omega)
      have e2 : w = Str.ofString "" := by rw [e_str]; exact C_inj (by rw [this, C_mk])
      simp [e2]
theorem wordStep_ok {cs : List Str} (h : NamesOk cs) {w : Str} (hw : 47 ∉ C w) : NamesOk (wordStep cs w) := by
  unfold wordStep
  split
  · exact fun n hn => h n (List.dropLast_subset _ hn)
  · rename_i h1
    split
    · exact h
    · rename_i h2
      rw [Bool.or_eq_true, not_or] at h2
      intro n hn
      rcases List.mem_append.mp hn with hn | hn
      · exact h n hn
      · rw [List.mem_singleton.mp hn]
        refine ⟨fun e => h2.1 ?_, hw, fun e => h2.2 (by rw [e]; simp), fun e => h1 (by rw [e]; simp)⟩
        have : w = Str.ofString "" := by rw [e_str]; exact C_inj (by rw [e, C_mk])
        rw [this]; simp
theorem fold_words : ∀ (ws cs : List Str), NamesOk cs → (∀ w ∈ ws, 47 ∉ C w) → ws.foldl normStep cs = ws.foldl wordStep cs ∧ NamesOk (ws.foldl wordStep cs)
  | [], cs, h, _ => ⟨rfl, h⟩
  | w :: r, cs, h, hw => by
    have := fold_words r (wordStep cs w) (wordStep_ok h (hw w (.head _))) fun x hx => hw x (.tail _ hx)
    rw [List.foldl_cons, List.foldl_cons, wordStep_norm h]
    exact this
theorem split_free' (x : Str) : ∀ w ∈ Txt.split x sl, 47 ∉ C w := by
  rw [sl_eq]; exact StrLaws.split_free x 47
/-- one step of law 2's own reckoning -/
noncomputable def lawStep (ns : List Str) (b : Str) : List Str := (Txt.split b sl).foldl wordStep (if (Txt.slice b none (some 1) == sl) = true then [] else ns)
theorem abs_iff (b : Str) : (Txt.slice b none (some 1) == sl) = true ↔ (C b).head? = some 47 := by
  rw [beq_iff_eq, str_eq_iff, slice1, C_sl]
  cases C b with
  | nil => simp
  | cons a r => simp
theorem joinStep_head {p b : Str} (hp : (C p).head? = some 47) : (C (joinStep p b)).head? = some 47 := by
  have key : ∀ q : List Nat, (C p ++ q).head? = some 47 := fun q => by
    cases e : C p with
    | nil => rw [e] at hp; cases hp
    | cons a r => rw [e] at hp; simpa using hp
  unfold joinStep
  by_cases hb : (C b).head? = some 47
  · rw [if_pos (.inl ((starts_iff b).mpr hb))]; exact hb
  · have h0 : p.length ≠ 0 := by rw [← C_len]; intro e; rw [List.eq_nil_of_length_eq_zero e] at hp; cases hp
    rw [if_neg (by rw [show Str.ofString "/" = sl from rfl, starts_iff]; intro h; exact h.elim hb h0)]
    split
    · rw [C_app]; exact key _
    · rw [C_app]; exact key _
theorem lawStep_ok {ns : List Str} (h : NamesOk ns) (b : Str) : NamesOk (lawStep ns b) := by
  unfold lawStep
  refine (fold_words _ _ ?_ (split_free' b)).2
  split
  · exact fun _ hn => absurd hn (by simp)
  · exact h
theorem comps_step {p b : Str} (hp : (C p).head? = some 47) (h : NamesOk (comps p)) : comps (joinStep p b) = lawStep (comps p) b := by
  have hne : C p ≠ [] := fun e => by rw [e] at hp; cases hp
  rw [comps_join hne]
  unfold lawStep
  by_cases hb : (C b).head? = some 47
  · rw [if_pos hb, if_pos ((abs_iff b).mpr hb)]
    exact (fold_words _ _ (fun _ hn => absurd hn (by simp)) (split_free' b)).1
  · rw [if_neg hb, if_neg (by rw [abs_iff]; exact hb)]
    exact (fold_words _ _ h (split_free' b)).1
theorem comps_steps : ∀ (bs : List Str) (p : Str), (C p).head? = some 47 → NamesOk (comps p) →
    comps (bs.foldl joinStep p) = bs.foldl lawStep (comps p) ∧ NamesOk (bs.foldl lawStep (comps p)) ∧ (C (bs.foldl joinStep p)).head? = some 47
  | [], p, hp, h => ⟨rfl, h, hp⟩
  | b :: r, p, hp, h => by
    have e := comps_step (b := b) hp h
    have := comps_steps r (joinStep p b) (joinStep_head hp) (by rw [e]; exact lawStep_ok h b)
    rw [e] at this
    exact this
theorem rootOf_pre {x y : List Nat} {p : Str} (hx : C p = x ++ y) (h3 : 3 ≤ x.length) : (∃ r, C p = 47 :: 47 :: r ∧ r.head? ≠ some 47) ↔ (∃ r, x = 47 :: 47 :: r ∧ r.head? ≠ some 47) := by
  match x, h3 with
  | [], h => exact absurd h (by simp)
  | [_], h => exact absurd h (by simp)
  | [_, _], h => exact absurd h (by simp)
  | a :: b :: c :: r, _ =>
    rw [hx]
    constructor
    · rintro ⟨q, hq, hn⟩
      refine ⟨c :: r, ?_, ?_⟩
      · simp at hq; simp [hq]
      · simp at hq; rw [← hq.2.2] at hn; simpa using hn
    · rintro ⟨q, hq, hn⟩
      refine ⟨c :: r ++ y, ?_, ?_⟩
      · simp at hq; simp [hq]
      · simp at hq; rw [← hq.2.2] at hn; simpa using hn
theorem root_join {p b : Str} (hp : (C p).head? = some 47) (hb : (C b).head? ≠ some 47) : rootOf (joinStep p b) = rootOf p := by
  have h0 : p.length ≠ 0 := by rw [← C_len]; intro e; rw [List.eq_nil_of_length_eq_zero e] at hp; cases hp
  have hj : joinStep p b = if Txt.endswith p sl = true then p ++ b else p ++ (sl ++ b) := by
    unfold joinStep
    rw [if_neg (by rw [show Str.ofString "/" = sl from rfl, starts_iff]; intro h; exact h.elim hb h0)]
  have key : (∃ r, C (joinStep p b) = 47 :: 47 :: r ∧ r.head? ≠ some 47) ↔ (∃ r, C p = 47 :: 47 :: r ∧ r.head? ≠ some 47) := by
    by_cases h3 : 3 ≤ (C p).length
    · rw [hj]
      split
      · exact rootOf_pre (C_app _ _) h3
      · exact rootOf_pre (C_app _ _) h3
    · match hc : C p with
      | [] => rw [hc] at hp; cases hp
      | [a] =>
        have ha : a = 47 := by rw [hc] at hp; simpa using hp
        subst ha
        have he : Txt.endswith p sl = true := (ends_iff p).mpr (by rw [hc]; rfl)
        rw [hj, if_pos he, C_app, hc]
        constructor
        · rintro ⟨r, hr, _⟩
          simp at hr
          rw [hr] at hb; exact absurd rfl hb
        · rintro ⟨r, hr, _⟩; cases hr
      | [a, c] =>
        have ha : a = 47 := by rw [hc] at hp; simpa using hp
        subst ha
        by_cases hc47 : c = 47
        · subst hc47
          have he : Txt.endswith p sl = true := (ends_iff p).mpr (by rw [hc]; rfl)
          rw [hj, if_pos he, C_app, hc]
          constructor
          · intro _; exact ⟨[], rfl, by simp⟩
          · intro _; exact ⟨C b, rfl, hb⟩
        · have no : ∀ q, ¬ ∃ r, (47 :: c :: q : List Nat) = 47 :: 47 :: r ∧ r.head? ≠ some 47 := by
            rintro q ⟨r, hr, _⟩
            simp at hr; exact hc47 hr.1
          rw [hj]
          constructor
          · intro h
            exfalso
            split at h
            · rw [C_app, hc] at h; exact no _ h
            · rw [C_app, hc] at h; exact no _ h
          · intro h; exact absurd h (no [])
      | a :: c :: e :: r => rw [hc] at h3; simp at h3
  unfold rootOf
  by_cases h : ∃ r, C p = 47 :: 47 :: r ∧ r.head? ≠ some 47
  · rw [if_pos h, if_pos (key.mpr h)]
  · rw [if_neg h, if_neg (fun k => h (key.mp k))]
theorem rootOf_sl : rootOf sl = sl := by
  unfold rootOf
  rw [if_neg]
  rintro ⟨r, hr, _⟩
  rw [C_sl] at hr; cases hr
end
section
set_option maxHeartbeats 400000
/-- no other thing than the iterator is of its class and at its place -/
noncomputable def OffI (n : String) (I : Addr) : List (Addr × Obj) → Prop
  | [] => True
  | p :: r => (p.2.cls ≠ .type n ∨ @Ne Nat p.1 I) ∧ OffI n I r
theorem OffI.ne {n : String} {I : Addr} {l : List (Addr × Obj)} (h : OffI n I l) : ∀ p ∈ l, p.2.cls ≠ .type n ∨ @Ne Nat p.1 I := by
  induction l with
  | nil => intro p hp; cases hp
  | cons a r ih =>
    intro p hp
    rcases List.mem_cons.mp hp with e | hp
    · rw [e]; exact h.1
    · exact ih h.2 p hp
theorem OffI.of_ne {n : String} {I : Addr} {l : List (Addr × Obj)} (h : ∀ p ∈ l, p.2.cls ≠ .type n ∨ @Ne Nat p.1 I) : OffI n I l := by
  induction l with
  | nil => trivial
  | cons a r ih => exact ⟨h a (.head _), ih fun p hp => h p (.tail _ hp)⟩
noncomputable def TEnd2 {σ : Type} (g : Heap) (L : Addr) (Led : σ → List (Addr × Obj)) (ps : σ → List (Str × Value)) (P : σ → Prop) (icls : String) (it : Addr × Obj) (s₁ s₂ : Shared) : Prop :=
  ∃ c h' tk m' news', s₂ = { s₁ with heap := h', toks := tk } ∧ Fr g L h' m' ∧ News g L h' news' ∧ Sub news' (Led c) ∧ it ∈ news' ∧ OffI icls it.1 (Led c) ∧ AllAt m' (ps c) ∧ P c
noncomputable def TPost2 {σ : Type} (g : Heap) (L : Addr) (Led : σ → List (Addr × Obj)) (ps : σ → List (Str × Value)) (P : σ → Prop) (icls : String) (it : Addr × Obj) (s₁ : Shared) (Q : Flow → Shared → Prop) (f : Flow) (s₂ : Shared) : Prop :=
  match f with
  | .ret v => Q (.ret v) s₂
  | .brk => Q .next s₂
  | _ => TEnd2 g L Led ps P icls it s₁ s₂
theorem TEnd2.intro {σ : Type} {g : Heap} {L : Addr} {Led : σ → List (Addr × Obj)} {ps : σ → List (Str × Value)} {P : σ → Prop} {icls : String} {it : Addr × Obj} {s₁ : Shared} (c : σ) {h' : Heap} {tk : Nat} {m' : Str → Option Value} {news' : List (Addr × Obj)}
    (F : Fr g L h' m') (N : News g L h' news') (h1 : Sub news' (Led c)) (h2 : it ∈ news') (h3 : OffI icls it.1 (Led c)) (h4 : AllAt m' (ps c)) (h5 : P c) : TEnd2 g L Led ps P icls it s₁ { s₁ with heap := h', toks := tk } :=
  ⟨c, h', tk, m', news', rfl, F, N, h1, h2, h3, h4, h5⟩
section
variable {prog : Program} {w : World} {A : Around} {E : Value → Shared → Prop} {s : Shared} {env : Env} {g : Heap} {x : Str} {body : List Stmt} {Q : Flow → Shared → Prop}

theorem for_core2 {σ : Type} {I : Addr} {src : List (Addr × Obj)} {n : Nat} {PV : Nat → Value → Prop} {St : Nat → Heap → Prop} {icls : String} {m₀ : Str → Option Value} {news : List (Addr × Obj)}
    (Led : σ → List (Addr × Obj)) (ps : σ → List (Str × Value)) (P : Nat → σ → Prop) (c₀ : σ)
    (W : Walks prog w A I (I :: src.map (·.1)) [I] n PV St)
    (hob : ∀ i h, St i h → ∃ o, h.get? I = some o ∧ o.cls = .type icls)
    (hsrc : ∀ q ∈ src, (∀ c, q ∈ Led c) ∨ g.get? q.1 = some q.2)
    (hst : St 0 s.heap) (hI : g.get? I = none) (hLI : env.locals ≠ I) (hLs : ∀ q ∈ src, env.locals ≠ q.1)
    (F : Fr g env.locals s.heap m₀) (N : News g env.locals s.heap news) (h1 : ∀ p ∈ Led c₀, p ∈ news) (h3 : AllAt m₀ (ps c₀)) (h4 : P 0 c₀)
    (hIn : ∀ p ∈ news, p.1 ≠ I)
    (turn : ∀ i v c h tk it u, i < n → PV i v → P i c → Fr g env.locals h (fun y => if y = x then some v else chain (ps c) u y) → News g env.locals h ((I, it) :: Led c) → it.cls = .type icls → AllNe I (Led c) →
      wpAny (model prog w) A (execs body env) (TPost2 g env.locals Led ps (P (i + 1)) icls (I, it) { s with heap := h, toks := tk } Q) E { s with heap := h, toks := tk })
    (done : ∀ c h tk u, P n c → Fr g env.locals h (chain (ps c) u) → News g env.locals h (Led c) → Q .next { s with heap := h, toks := tk }) :
    LoopAtV prog w A g env x body Q E (.ref I) s := by
  refine ⟨I, _, [I], n, PV, St, m₀, Led c₀, (fun i m nx => ∃ c, nx = Led c ∧ AllAt m (ps c) ∧ P i c ∧ OffI icls I (Led c)), rfl, W, ?_, ?_, ?_, hst, F, (fun p hp => N p (h1 p hp)), ⟨c₀, rfl, h3, h4, .of_ne fun p hp => .inr (hIn p (h1 p hp))⟩, ?_, ?_⟩
  · intro hm
    rcases List.mem_cons.mp hm with e | hm
    · exact hLI e
    · obtain ⟨q, hq, e⟩ := List.mem_map.mp hm
      exact hLs q hq e.symm
  · intro b hb
    rw [List.mem_singleton.mp hb]; exact hI
  · intro p hp hb
    exact hIn p (h1 p hp) (List.mem_singleton.mp hb)
  · rintro i v m₁ news₁ s₁ own ⟨hh, tk, rfl⟩ hi hP ⟨c, rfl, hps, hPc, hoff⟩ hnw hown hget hall hst₁ F₁ N₁
    obtain ⟨it, hit, hcl⟩ := hob _ _ hst₁
    have hio : (I, it) ∈ own := hall I (.head _) hI it hit
    have F₂ : Fr g env.locals hh (fun y => if y = x then some v else chain (ps c) m₁ y) := by rw [chain_of hps]; exact F₁
    have N₂ : News g env.locals hh ((I, it) :: Led c) := fun p hp => by
      rcases List.mem_cons.mp hp with rfl | hp
      · exact N₁ _ (List.mem_append_left _ hio)
      · exact N₁ _ (List.mem_append_right _ hp)
    refine wpAny_mono (turn i v c hh tk it m₁ hi hP hPc F₂ N₂ hcl (allNe_of fun p hp e => hnw p hp (by rw [e]; exact .head _))) (fun f s₂ p => ?_) fun _ _ e => e
    have fin : TEnd2 g env.locals Led ps (P (i + 1)) icls (I, it) { s with heap := hh, toks := tk } s₂ →
        LoopStepU g env.locals [I] own (fun m nx => ∃ c, nx = Led c ∧ AllAt m (ps c) ∧ P (i + 1) c ∧ OffI icls I (Led c)) { s with heap := hh, toks := tk } .next s₂ := by
      rintro ⟨c', h', tk', m', news', rfl, F', N', hsub, hit', hoff', hps', hP'⟩
      refine ⟨rfl, h', tk', m', Led c', rfl, F', fun p hp => ?_, fun p hp hb => ?_, c', rfl, hps', hP', hoff'⟩
      · rcases List.mem_append.mp hp with hp | hp
        · rcases List.mem_cons.mp (hown p hp) with e | hq
          · have h5 := hget p hp
            have h6 : p = (I, it) := Prod.ext e (by
              have h7 : hh.get? p.1 = some p.2 := h5
              rw [e, hit] at h7; exact (Option.some.inj h7).symm)
            rw [h6]; exact N' _ hit'
          · obtain ⟨q, hq, e⟩ := List.mem_map.mp hq
            have h5 : hh.get? p.1 = some p.2 := hget p hp
            rcases hsrc q hq with h7 | h7
            · have h8 := (N₁ q (List.mem_append_right _ (h7 c))).1
              have h9 : p = q := Prod.ext e.symm (by rw [← e] at h5; rw [show hh.get? q.1 = some q.2 from h8] at h5; exact (Option.some.inj h5).symm)
              rw [h9]; exact N' _ (hsub.mem q (h7 c'))
            · have h8 := (N₁ p (List.mem_append_left _ hp)).2.2
              rw [← e, h7] at h8; cases h8
        · exact N' p (hsub.mem p hp)
      · have e : p.1 = I := List.mem_singleton.mp hb
        have h5 := (N' p (hsub.mem p hp)).1
        rw [e, (N' _ hit').1] at h5
        have h6 : p.2 = it := (Option.some.inj h5).symm
        rcases hoff'.ne p hp with hh | hh
        · exact hh (by rw [h6]; exact hcl)
        · exact hh e
    cases f with
    | ret v => exact .ret p
    | brk => exact .brk p
    | next => exact .next (fin p)
    | cont => exact .cont (fin p)
  · rintro h' tk m' news' F' N' _ ⟨c, rfl, hps, hP, _⟩
    refine done c h' tk m' hP ?_ N'
    rw [chain_of hps]; exact F'

theorem for_list2 {σ : Type} {l : Addr} {vs : List Value} {nn : Nat} {m₀ : Str → Option Value} {news : List (Addr × Obj)}
    (Led : σ → List (Addr × Obj)) (ps : σ → List (Str × Value)) (P : Nat → σ → Prop) (c₀ : σ)
    (hh : A.handled = none) (hsrc : Stands g Led (l, listOf vs.toArray nn))
    (F : Fr g env.locals s.heap m₀) (N : News g env.locals s.heap news) (h1 : Sub news (Led c₀)) (h3 : AllAt m₀ (ps c₀)) (h4 : P 0 c₀)
    (turn : ∀ i v c h tk I it u, vs[i]? = some v → P i c → Fr g env.locals h (fun y => if y = x then some v else chain (ps c) u y) → News g env.locals h ((I, it) :: Led c) → it.cls = .type "list_iterator" → AllNe I (Led c) →
      wpAny (model prog w) A (execs body env) (TPost2 g env.locals Led ps (P (i + 1)) "list_iterator" (I, it) { s with heap := h, toks := tk } Q) E { s with heap := h, toks := tk })
    (done : ∀ c h tk u, P vs.length c → Fr g env.locals h (chain (ps c) u) → News g env.locals h (Led c) → Q .next { s with heap := h, toks := tk }) :
    wpAny (model prog w) A (pyIter (.ref l)) (fun it s₂ => LoopAtV prog w A g env x body Q E it s₂) E s := by
  obtain ⟨hol, hlL⟩ := hsrc.now F N c₀ h1.mem
  have hls : s.heap.IsList l vs.toArray := ⟨_, hol, rfl, nn, rfl⟩
  have hne : l ≠ s.heap.objs.size := Nat.ne_of_lt (Heap.lt_size hol)
  refine wpAny_pyIter_list hls ?_
  have W := Walks.list (prog := prog) (w := w) hh s.heap.objs.size l hne vs.toArray
  have hlen : vs.toArray.size = vs.length := by simp
  rw [hlen] at W
  refine for_core2 (s := { s with heap := s.heap.push _ }) (src := [(l, listOf vs.toArray nn)]) (icls := "list_iterator") Led ps P c₀ W ?_ ?_ ⟨⟨_, Heap.get?_push_size _ rfl, rfl, rfl⟩, hls.at fun o e => Heap.get?_push_of_some _ e⟩ (next_is_new F) (Nat.ne_of_lt F.ns.lt) ?_ (F.push _) (fun p hp => ⟨Heap.get?_push_of_some _ (N p hp).1, (N p hp).2⟩) h1.mem h3 h4 ?_ ?_ ?_
  · rintro i h ⟨⟨o, a, b, _⟩, _⟩; exact ⟨o, a, b⟩
  · intro q hq; rw [List.mem_singleton.mp hq]; exact hsrc
  · intro q hq; rw [List.mem_singleton.mp hq]; exact fun e => hlL e.symm
  · intro p hp e; exact absurd (Heap.lt_size (N p hp).1) (e ▸ Nat.lt_irrefl _)
  · intro i v c h tk it u hi hP hPc F' N' hcl hne
    exact turn i v c h tk _ it u (by simpa using hP) hPc F' N' hcl hne
  · exact fun c h tk u a b d => done c h tk u a b d

end
end
section
theorem under_keeps {g h h' : Heap} {news : List (Addr × Obj)} (U : Under g h news) (k : Keeps h h') (hz : h.objs.size ≤ h'.objs.size) : Under g h' news :=
  ⟨fun b o e => k _ _ (U.kg _ _ e), Nat.le_trans U.sz hz, fun p hp => ⟨k _ _ (U.at_ p hp).1, (U.at_ p hp).2⟩⟩
noncomputable abbrev hid (h : Heap) (l : List (Addr × Obj)) : Heap := hideAll h (l.map (·.1))
theorem hid_at {h : Heap} {l : List (Addr × Obj)} {b : Addr} {o : Obj} (e : h.get? b = some o) (hn : ∀ p ∈ l, p.1 ≠ b) : (hid h l).get? b = some o :=
  hideAll_get _ e fun hm => by
    obtain ⟨p, hp, e2⟩ := List.mem_map.mp hm
    exact hn p hp e2
theorem Under.hid {g h : Heap} {news l : List (Addr × Obj)} (U : Under g h news) (hl : ∀ p ∈ l, p ∈ news) : Under (hid h l) h l ∧ Keeps g (hid h l) := by
  refine ⟨⟨fun b o e => of_hideAll _ e, Nat.le_of_eq (hideAll_size _ _), fun p hp => ⟨(U.at_ p (hl p hp)).1, hideAll_none _ (List.mem_map_of_mem hp)⟩⟩, fun b o e => ?_⟩
  refine hid_at (U.kg _ _ e) fun p hp q => ?_
  have := (U.at_ p (hl p hp)).2
  rw [q, e] at this; cases this
theorem hid_keep {h h₂ : Heap} {l news : List (Addr × Obj)} (U : Under (hid h l) h₂ news) {b : Addr} {o : Obj} (e : h.get? b = some o) (hl : ∀ p ∈ l, p.1 = b → h₂.get? b = some o) : h₂.get? b = some o := by
  by_cases hm : ∃ p ∈ l, p.1 = b
  · obtain ⟨p, hp, q⟩ := hm
    exact hl p hp q
  · exact U.kg _ _ (hid_at e fun p hp q => hm ⟨p, hp, q⟩)
theorem hid_fresh {g h : Heap} {l : List (Addr × Obj)} {a : Addr} (k : Keeps g (hid h l)) (n : (hid h l).get? a = none) : g.get? a = none := by
  cases q : g.get? a with
  | none => rfl
  | some o => rw [k _ _ q] at n; cases n
theorem fr_under {g h : Heap} {L : Addr} {m : Str → Option Value} {news l : List (Addr × Obj)} (F : Fr g L h m) (N : News g L h news) (hs : ∀ p ∈ l, p ∈ news) : Under g h l :=
  ⟨F.keep, Nat.le_trans F.above (Nat.le_of_lt F.ns.lt), fun p hp => ⟨(N p (hs p hp)).1, (N p (hs p hp)).2.2⟩⟩
theorem mem2 {α : Type _} {e a b : α} (h : e ∈ [a, b]) : e = a ∨ e = b := (List.mem_cons.mp h).imp id List.mem_singleton.mp
theorem mem3 {α : Type _} {e a b c : α} (h : e ∈ [a, b, c]) : e = a ∨ e = b ∨ e = c := (List.mem_cons.mp h).imp id mem2
theorem mem4 {α : Type _} {e a b c d : α} (h : e ∈ [a, b, c, d]) : e = a ∨ e = b ∨ e = c ∨ e = d := (List.mem_cons.mp h).imp id mem3
theorem mem5 {α : Type _} {e a b c d f : α} (h : e ∈ [a, b, c, d, f]) : e = a ∨ e = b ∨ e = c ∨ e = d ∨ e = f := (List.mem_cons.mp h).imp id mem4
theorem xs_big {x : Addr} (h : @LT.lt Nat _ 255 x) : (x == sysModules) = false := by
  rw [beq_eq_false_iff_ne]
  intro e
  rw [e] at h
  exact absurd h (by decide)
noncomputable abbrev Row := Addr × Obj
noncomputable def Apart (a b : List Row) : Prop := ∀ p ∈ a, ∀ q ∈ b, @Ne Nat p.1 q.1
theorem Apart.symm {a b : List Row} (h : Apart a b) : Apart b a := fun p hp q hq e => h q hq p hp e.symm
theorem Apart.appR {a b c : List Row} (h : Apart a b) (k : Apart a c) : Apart a (b ++ c) := fun p hp q hq => (List.mem_append.mp hq).elim (h p hp q) (k p hp q)
theorem Apart.lefts {a b c : List Row} (h : Apart (a ++ b) c) : Apart a c ∧ Apart b c := ⟨fun p hp => h p (List.mem_append_left _ hp), fun p hp => h p (List.mem_append_right _ hp)⟩
theorem allNe_mem {a : Addr} : ∀ {l : List (Addr × Obj)}, AllNe a l → ∀ p ∈ l, @Ne Nat p.1 a
  | [], _, p, hp => absurd hp (by simp)
  | q :: r, h, p, hp => by
    simp only [AllNe] at h
    rcases List.mem_cons.mp hp with rfl | hp
    · exact fun e => h.1 (by first | exact e.symm | exact e)
    · exact allNe_mem h.2 p hp
theorem news_two {g h h' : Heap} {L a b : Addr} {o1 o2 : Obj} {m : Str → Option Value} {news : List Row} (F : Fr g L h m) (N : News g L h news) (k : Keeps h h') (n1 : h.get? a = none) (n2 : h.get? b = none) (e1 : h'.get? a = some o1) (e2 : h'.get? b = some o2) : News g L h' ((a, o1) :: (b, o2) :: news) := fun p hp => by
  rcases List.mem_cons.mp hp with rfl | hp
  · exact news_add k n1 e1 F N _ (.head _)
  · rcases List.mem_cons.mp hp with rfl | hp
    · exact news_add k n2 e2 F N _ (.head _)
    · exact N.keeps k p hp
theorem strsAre_rev {vs : List Value} {ys : List Str} (h : StrsAre vs ys) : StrsAre vs.reverse ys.reverse := by
  induction h with
  | nil => exact .nil
  | cons y t _ ih => rw [List.reverse_cons, List.reverse_cons]; exact strsAre_snoc ih y t
theorem joinL_pre : ∀ (a b : List (List Nat)), (joinL a).length ≤ (joinL (a ++ b)).length
  | [], b => by simp [joinL]
  | [p], [] => by simp
  | [p], q :: r => by simp [joinL]
  | p :: q :: r, b => by
    have := joinL_pre (q :: r) b
    simp only [joinL, List.cons_append, List.length_append, List.length_cons] at this ⊢
    omega
theorem path_len_pre (r : Str) (a b : List Str) : (pathR r a).length ≤ (pathR r (a ++ b)).length := by
  rw [← C_len, ← C_len, C_path, C_path, List.map_append]
  have := joinL_pre (a.map C) (b.map C)
  simp only [List.length_append]; omega
theorem path_count (r : Str) (ns : List Str) : ns.length ≤ (pathR r ns).length + 1 := by
  have := join_parts_len ns
  unfold pathR
  rw [PySem.Str.length_append]
  have e : (Str.join sl ns).length = (Str.join (Str.ofString "/") ns).length := rfl
  omega
section
variable {g h h' : Heap} {L : Addr} {m : Str → Option Value} {l l' rest : List (Addr × Obj)}
theorem hid_frame (F : Fr g L h m) (N : News g L h (l ++ rest)) : Under (hid h l) h l ∧ Keeps g (hid h l) :=
  Under.hid (fr_under F N fun p hp => hp) fun p hp => List.mem_append_left _ hp
theorem under_frame (F : Fr g L h m) (N : News g L h (l ++ rest)) (ap : ∀ p ∈ rest, ∀ q ∈ l, @Ne Nat q.1 p.1) (U : Under (hid h l) h' l') : Fr g L h' m ∧ News g L h' (l' ++ rest) := by
  have K := (hid_frame F N).2
  have hL : ∀ o, h.get? L = some o → (hid h l).get? L = some o := fun o e => hid_at e fun p hp => (N p (List.mem_append_left _ hp)).2.1
  refine ⟨⟨F.ns.at fun o e => U.kg _ _ (hL o e), fun b o e => U.kg _ _ (K _ _ e), F.above⟩, fun p hp => ?_⟩
  rcases List.mem_append.mp hp with hp | hp
  · refine ⟨(U.at_ p hp).1, fun e => ?_, hid_fresh K (U.at_ p hp).2⟩
    obtain ⟨o, _, _, ho, _⟩ := F.ns
    have := (U.at_ p hp).2
    rw [e, hL o ho] at this; cases this
  · have n := N p (List.mem_append_right _ hp)
    exact ⟨U.kg _ _ (hid_at n.1 fun q hq e => ap p hp q hq e), n.2⟩
end
section
variable {prog : Program} {w : World} {A : Around} {E : Value → Shared → Prop} {K : Frag} {x C dx : Addr} {ox : Obj} {od : Option Obj} {h : Heap} {g : Array GenState} {d : Drawn} {t : Nat} {os : OsState}
theorem get_methodF {ox : Obj} {bag : Obj} {name : Str} {f : Addr} {of : Obj} {pl : Sem Bool} {Q : Value × List Value → Shared → Prop} (X : K.In h) (I : InstAt h x ox C (some bag)) (hdx : ox.dict = some dx) (hga : findIn K (.ref C) "__getattribute__" = some (some (.builtin "collections.defaultdict.__getattribute__")))
    (hk : findIn K (.ref C) "__getattr__" = some none) (hf : findIn K (.ref C) name = some (some (.ref f))) (hof : h.get? f = some of) (hcl : of.cls = .type "function") (hb : lookIn name bag = some none)
    (hq : Q (.ref f, [.ref x]) ⟨h, g, d, t, os⟩) : wpAny (model prog w) A (getMethod (.ref x) name pl) Q E ⟨h, g, d, t, os⟩ := by
  have hbag : h.get? dx = some bag := by have := I.dict; rw [hdx] at this; exact this
  unfold getMethod
  refine wpAny_bind (special_inst X I hga ?_)
  dsimp only
  simp only [canon_ga, Bool.false_eq_true, if_false]
  refine wpAny_bind (special_inst X I hk ?_)
  simp only [Option.isSome_none, Bool.false_eq_true, if_false]
  refine wpAny_bind (special_inst X I hf ?_)
  dsimp only
  have LT : Looks (model prog w) h (typeOf (.ref f)) (.type "function") := hcl ▸ (Looks.ld hof).andThen .now
  refine wpAny_bind (LT.at ?_)
  simp only [show (Value.type "function" != Value.type "function" && Value.type "function" != Value.type "method_descriptor" && Value.type "function" != Value.type "wrapper_descriptor") = false by decide, Bool.false_eq_true, if_false]
  refine wpAny_bind (wpAny_loadPart_at I.at_ ?_)
  simp only [hdx]
  refine wpAny_bind ?_
  unfold nsGet
  refine wpAny_bind (wpAny_loadPart_at hbag ?_)
  rw [nsLook_of hb]
  refine wpAny_pure ?_
  simp only [Option.isSome_none, Bool.false_eq_true, if_false]
  exact wpAny_bind (wpAny_rule (wpAny_pure hq))
end
theorem look_bag {w : World} {bag : Obj} {name : Str} (hb : bag = bag0 ∨ ∃ tk v, bag = bagF w tk v) (hn : name ≠ Str.ofString "_frozen") : lookIn name bag = some none := by
  rcases hb with rfl | ⟨tk, v, rfl⟩
  · rfl
  · have : (Value.str (Str.ofString "_frozen") tk).isStr name = false := by
      unfold Value.isStr
      simp only [beq_eq_false_iff_ne, ne_eq]
      intro e; exact hn (by first | exact e | exact e.symm)
    simp only [lookIn, bagF, List.find?_cons, List.find?_nil, this, List.any_cons, List.any_nil]
    rfl
section
variable {prog : Program} {w : World} {A : Around} {E : Value → Shared → Prop} {K : Frag} {x C dx : Addr} {ox : Obj} {od : Option Obj} {h : Heap} {g : Array GenState} {d : Drawn} {t : Nat} {os : OsState}
theorem tail_fold {nm : Str} {np : Pos} {slice : Expr} {key : Value} {Q : Value → Shared → Prop} (X : K.In h) (I : InstAt h x ox C od) (hgi : findIn K (.ref C) "__getitem__" = some (some (.builtin "dict.__getitem__")))
    (hg : wpAny (model prog w) A (getItem (.ref x) key) Q E ⟨h, g, d, t, os⟩)
    (hs : subscripted slice false (.ref x) key = operate [.ref x, key] (getItem (.ref x) key) := by with_unfolding_all rfl) :
    wpAny (model prog w) A (subscriptTail (.Name nm np) slice (.ref x) key) Q E ⟨h, g, d, t, os⟩ := by
  unfold subscriptTail
  refine wpAny_bind ?_
  unfold getitemInPython
  refine wpAny_bind (special_inst X I hgi (wpAny_pure ?_))
  rw [hs]
  exact wpAny_bind (wpAny_operating (wpAny_mono hg (fun r s₃ h₃ => wpAny_bind (wpAny_pure (wpAny_pure h₃))) fun _ _ x => x))
end
theorem seq_none {P : Params} {M : Model} {h : Heap} (X : (K1 P).In h) : Looks M h (seqItemTypes.anyM fun n => isSubtype (.ref 65) (.type n)) false := by
  have e : ∀ n ∈ seqItemTypes, mroIn (K1 P) 65 (.type n) = some false := by
    have : mroIn (K1 P) 65 = fun b => some ((.ref 65 :: bmD).contains b) := by funext b; rfl
    rw [this]
    decide
  have key : ∀ l : List String, (∀ n ∈ l, mroIn (K1 P) 65 (.type n) = some false) → Looks M h (l.anyM fun n => isSubtype (.ref 65) (.type n)) false := by
    intro l
    induction l with
    | nil => intro _; exact .now
    | cons a r ih =>
      intro hl
      intro A Q E s k q
      rw [List.anyM]
      refine wpAny_bind (looks_mroIn X (hl a (.head _)) A _ E s k ?_)
      exact ih (fun n hn => hl n (.tail _ hn)) A Q E s k q
  exact key _ e
theorem fold_freeze : ∀ {w : World} {A : Around} {E : Value → Shared → Prop} {s : Shared} {x dx f : Addr} {kids : List Kid} {n : Nat} {bag : Obj} {pl : Sem Bool} {Q : Value × List Value → Shared → Prop} (X : (K1 w.params).In s.heap) (h1 : s.heap.get? x = some (foldObj w 65 dx f kids n)) (h2 : s.heap.get? dx = some bag) (hb : bag = bag0 ∨ ∃ tk v, bag = bagF w tk v) (h : Q (.ref 62, [.ref x]) s)
    , wpAny (model PySem.Challenge.rw_il0142_01.row.prog w) A (getMethod (.ref x) "freeze" pl) Q E s := by
  k_fill
  intro w A E s x dx f kids n bag pl Q X h1 h2 hb h
  obtain ⟨hh, gg, d, tk, os⟩ := s
  have I : InstAt hh x (foldObj w 65 dx f kids n) 65 (some bag) := ⟨h1, rfl, rfl, h2⟩
  have hm : ∃ om, (K1 w.params).lookup 62 = some om ∧ om.cls = .type "function" := ⟨_, by k_is, rfl⟩
  obtain ⟨om, hm1, hm2⟩ := hm
  exact get_methodF X I rfl (by k_is) (by k_is) (by k_is) (X _ _ hm1) hm2 (look_bag hb (by decide +kernel)) h
theorem fd_full {P : Params} : ∃ nm bs sn sub col dd k0 k1 k2 k3 k5, (K1 P).lookup 65 = some (excClassObj nm nm 65 64 bs bmD true sn sub false col dd k0 k1 k2 k3 k5 "dict.__new__") := ⟨_, _, _, _, _, _, _, _, _, _, _, rfl⟩
theorem fd_last {P : Params} : ∃ of, (K1 P).lookup 231 = some of := ⟨_, rfl⟩
theorem fd_ns {P : Params} : ∃ o es ep, (K1 P).lookup 64 = some o ∧ o.data = .dict es ep ∧ StrKeys es ∧ nsFind es "__init__" = none := by
  refine ⟨_, _, _, rfl, rfl, ?_, by rfl⟩
  intro e he
  simp only [List.mem_toArray, List.mem_cons, List.not_mem_nil, or_false] at he
  rcases he with rfl | rfl | rfl | rfl | rfl | rfl | rfl | rfl <;> exact ⟨_, _, rfl⟩
end
local macro_rules | `(tactic| walk_at "exec For Name Name cons nil") => `(tactic| (k_here; (rename Fr _ _ _ _ => lF'); (with_unfolding_all refine' For_invVF lF' ?k1 ?k2 ?_; (case k1 => exact rfl); (case k2 => exact rfl))))
local macro_rules | `(tactic| walk_at "pyIter ref") => `(tactic| (k_here; refine stop ?_))
local macro_rules | `(tactic| walk_at "exec While Compare") => `(tactic| (k_here; refine stop ?_))
local macro_rules | `(tactic| walk_at "exec While BoolOp") => `(tactic| (k_here; refine stop ?_))
section

local macro_rules | `(tactic| walk_at "subscriptTail") => `(tactic| (
  (with_reducible show wpAny _ _ (subscriptTail _ _ (Value.ref _) (Value.int _ _)) _ _ _);
  (refine' KTb.item_list ?a ?b ?c ?d ?e ?_); (case a => exact News.isList (by assumption) (by k_mem)); (case b => assumption); (case c => omega); (case d => simp only [List.length_cons, List.length_nil]; omega); (case e => omega); (intro t' lt')))
noncomputable def digs : Nat → Nat → List Nat
  | 0, _ => []
  | k + 1, n => if n = 0 then [] else (n % 8) :: digs k (n / 8)
noncomputable abbrev w1 : List Str := [Str.ofString "a", Str.ofString "b", Str.ofString "..", Str.ofString ".", Str.ofString "", Str.ofString "/a", Str.ofString "//b", Str.ofString "ab"]
noncomputable def stepsS1 (n : Nat) : List Str := (digs 5 n).map fun d => w1.getD d Str.empty
theorem steps_ct : ∀ {w : World} {dp un : Nat} {fr : Option (List Env)} {gd : Option (List Code)} {s : Shared} {Q E : Value → Shared → Prop} {n : Nat} {t : Tok}
   {p loose mg mb} 
   (X : (K1 w.params).In s.heap) (T : TopRead p loose mg mb s.heap) (hdp : dp + 8 < 1000) (hu : un + 60 < 9900)
   (hn : n < 4096)
   (hQ : ∀ a vs nn h' tk, Keeps s.heap h' → s.heap.get? a = none → h'.get? a = some (listOf (vs : List Value).toArray nn) → StrsAre vs (stepsS1 n) → Q (.ref a) { s with heap := h', toks := tk })
   , wpAny (model PySem.Challenge.rw_il0142_01.row.prog w) (Ar dp un fr gd) (call (.ref 191) [.int n t]) Q E s := by
  k_fill
  intro w dp un fr gd s Q E n t p loose mg mb X T hdp hu hn hQ
  refine' enter [(Str.ofString "count", .int n t)] ?X ?T ?ho ?hcd ?hroom ?hbind ?hloc ?_ ?hco ?hgen ?hk ?hcell
  walk_at "my enter"
  k_steps
  unfold Stop
  rename_i WD _ _ _ _ ST _ l1 _ F N
  obtain ⟨ws, hws, N2⟩ : ∃ ws : List Value, StrsAre ws w1 ∧ News s.heap _ _ [(ST, W.listOf #[] 0), (WD, W.listOf ws.toArray 0)] := ⟨_, by repeat constructor, N⟩
  clear N
  refine while_st (σ := Nat × Nat × Tok × List Value × Nat) (fun c => [(ST, W.listOf c.2.2.2.1.toArray c.2.2.2.2), (WD, W.listOf ws.toArray 0)])
    (fun c => [(Str.ofString "count", .int (c.2.1 : Nat) c.2.2.1), (Str.ofString "steps", .ref ST), (Str.ofString "words", .ref WD)])
    (fun c => ∃ acc, StrsAre c.2.2.2.1 acc ∧ acc ++ (digs c.1 c.2.1).map (fun d => w1.getD d Str.empty) = stepsS1 n ∧ c.2.1 < 8 ^ c.1 ∧ acc.length + c.1 = 5) (fun c => c.2.1)
    (5, n, t, [], 0) F N2 ⟨.head _, .tail _ (.head _), trivial⟩ ⟨rfl, rfl, rfl, trivial⟩ ⟨[], .nil, rfl, by show n < 8 ^ 5; omega, rfl⟩ ?_
  rintro ⟨k, cur, t1, vs, nn⟩ h tk u ⟨acc, ha, he, hlt, hl5⟩ F' N'
  dsimp only [chain] at F' N' ha he hlt hl5 ⊢
  k_steps
  by_cases hc : 0 < cur
  · have hf1 : (cur : Int).fmod 8 = ((cur % 8 : Nat) : Int) := by rw [Int.fmod_eq_emod_of_nonneg _ (by omega)]; omega
    have hf2 : (cur : Int).fdiv 8 = ((cur / 8 : Nat) : Int) := by rw [Int.fdiv_eq_ediv_of_nonneg _ (by omega)]; omega
    have hvl := strsAre_len ha
    refine WhlIf.yes (by simp [hc]) ?_
    k_steps
    rw [hf2, hf1] at *
    simp only [Int.toNat_natCast, List.push_toArray] at *
    cases k with
    | zero => exfalso; simp at hlt; omega
    | succ k =>
      refine WEnd.intro (k, cur / 8, _, _, _) (by assumption) (by assumption) ⟨by k_mem, by k_mem, trivial⟩ ⟨rfl, rfl, rfl, trivial⟩ ⟨acc ++ [w1.getD (cur % 8) Str.empty], strsAre_snoc ha _ _, ?_, ?_, ?_⟩ ?_
      · rw [← he]
        show acc ++ [_] ++ List.map _ (digs k (cur / 8)) = acc ++ List.map _ (digs (k + 1) cur)
        rw [digs, if_neg (by omega)]
        simp
      · show cur / 8 < 8 ^ k
        rw [Nat.pow_succ] at hlt; omega
      · simp only [List.length_append, List.length_cons, List.length_nil]; omega
      · show cur / 8 < cur; omega
  · have h0 : cur = 0 := by omega
    subst h0
    have hd : digs k 0 = [] := by cases k <;> rfl
    rw [hd] at he
    have he : acc = stepsS1 n := by rw [← he]; simp
    rw [he] at ha
    refine WhlIf.no (by simp [hc]) ?_
    k_steps
    exact hQ _ _ _ _ _ (Fr.keep (by assumption)) (News.fresh (by assumption) (.head _)) (News.get (by assumption) (.head _)) ha
end
section
/-- a call of a def with one cell that stands empty at first, seen from a smaller ground -/
theorem enterC0 {prog : Program} {w : World} {A : Around} {s : Shared} {K : Frag} {Q E : Value → Shared → Prop} {g : Heap} {news : List (Addr × Obj)}
    {p : Program} {loose : List Str} {mg mb : Str → Option Value}
    {name qual : Str} {params : Arguments} {body : List Stmt} {scope : Scope} {dV kV doc pm cdv ct oc : Value} {an od : Option Addr} {osl : Array (Option Value)} {f : Addr} {pos : List Value} (binds : List (Str × Value)) (nc : Str)
    (X : K.In g) (T : TopRead p loose mg mb g) (U : Under g s.heap news)
    (ho : K.lookup f = some ⟨oc, od, .func (fnOf name qual params body scope dV kV doc pm an cdv ct), osl⟩) (hcd : codeIn K cdv qual = true) (hroom : A.depth < recursionLimit)
    (hbind : bindArgs (fnOf name qual params body scope dV kV doc pm an cdv ct) ⟨pos, []⟩ = pure binds)
    (hcs : ∀ k, cellsFrom k scope.names [] = [(nc, k)])
    (hkind : ∀ x ∈ binds, scope.names.lookup x.1 = some .local ∨ (scope.names.lookup x.1 = some .cell ∧ x.1 = nc))
    (hval : ∀ L', bindC (envX qual scope L' f cdv [(nc, L' + 1)]).kindOf binds (fun _ => none) nc = none)
    (h : ∀ L' c h₁ tk o, Fr g L' h₁ (bindL (envX qual scope L' f cdv [(nc, c)]).kindOf binds fun _ => none) → News g L' h₁ ((c, o) :: news) → o.data = .cell none → (∀ b o, s.heap.get? b = some o → h₁.get? b = some o) → s.heap.get? c = none →
      wpAny (model prog w) (A.deeper (envX qual scope L' f cdv [(nc, c)])) (execs body (envX qual scope L' f cdv [(nc, c)]))
        (fun fl s' => Q (match fl with | .ret v => v | _ => .none) s')
        (fun _ _ => False)
        { s with heap := h₁, toks := tk })
    (hco : scope.isCoroutine = false) (hgen : scope.isGenerator = false) (hk : scope.kind = .function) : wpAny (model prog w) A (PySem.call (.ref f) pos []) Q E s := by
  refine wpAny_call ?_
  refine codeAny_call_cells (fd := fnOf name qual params body scope dV kV doc pm an cdv ct) (body := body) hroom ((X.keeps U.kg) _ _ ho) rfl (T.nolimit.keeps U.kg) (codeRec_of (X.keeps U.kg) hcd) rfl hbind rfl (fun x hx => ?_) (fun s₁ Y => ?_) hco hgen hk
  · rcases hkind x hx with e | ⟨e, e2⟩
    · exact .inl e
    · refine .inr ⟨e, ?_⟩
      show ((cellsFrom (s.heap.objs.size + 1) scope.names []).lookup x.1).isSome = true
      rw [hcs, e2]; simp
  · obtain ⟨h₁, tk, rfl, _⟩ := Y.done
    have e : callEnvC (fnOf name qual params body scope dV kV doc pm an cdv ct) s.heap.objs.size f = envX qual scope s.heap.objs.size f cdv [(nc, s.heap.objs.size + 1)] := by
      unfold callEnvC newEnv
      rw [show (fnOf name qual params body scope dV kV doc pm an cdv ct).scope = scope from rfl, hcs]
    rw [e] at Y ⊢
    obtain ⟨o, hoc, hod⟩ := Y.cell nc (s.heap.objs.size + 1) (by simp)
    rw [hval] at hod
    have kp := Y.toInCall.keep
    have hfr : s.heap.get? (s.heap.objs.size + 1) = none := Heap.get?_none_of_le (Nat.le_succ _)
    refine wpAny_mono (h s.heap.objs.size (s.heap.objs.size + 1) h₁ tk o ⟨Y.toInCall.ns, fun b o e => kp b o (U.kg b o e), U.sz⟩ (fun p hp => ?_) hod kp hfr) (fun fl s' hl => hl) fun _ _ y => y.elim
    rcases List.mem_cons.mp hp with rfl | hp
    · refine ⟨hoc, Nat.ne_of_gt (Nat.lt_succ_self _), ?_⟩
      cases q : g.get? (s.heap.objs.size + 1) with
      | none => rfl
      | some o' => rw [U.kg _ _ q] at hfr; cases hfr
    · exact ⟨kp _ _ (U.at_ p hp).1, Nat.ne_of_lt (Heap.lt_size (U.at_ p hp).1), (U.at_ p hp).2⟩
/-- the lambda of the numbering -/
noncomputable def lamObj1 (st : Stmt) (qual : Str) (c : Addr) (pm : Value) (cc : Addr) (ctv : Value) : Obj := match st with
  | .FunctionDef _ _ (.Assign _ (.Call _ (.Lambda a b sc _ :: _) _ _) _ :: _) _ _ _ _ _ _ _ => kla_obj (Str.ofString "<lambda>") qual a b sc [(Str.ofString "book", c)] pm cc ctv
  | _ => default
noncomputable abbrev lamQual1 : Str := Str.ofString "_law_numbering" ++ Str.ofString ".<locals>." ++ Str.ofString "<lambda>"
local macro_rules | `(tactic| walk_at "call ref") => `(tactic| (
  (with_reducible show wpAny _ _ (PySem.call (Value.ref 65) [Value.ref _]) _ _ _); k_here; refine stop ?_))
local macro_rules | `(tactic| walk_at "my sub") => `(tactic| ((repeat (refine List.forall_mem_cons.mpr ⟨by k_mem, ?_⟩)); exact List.forall_mem_nil _))
theorem numbering_ct : ∀ {w : World} {dp un : Nat} {fr : Option (List Env)} {gd : Option (List Code)} {s : Shared} {Q E : Value → Shared → Prop}
   {p loose mean mg mb} {g : Heap}
   (X : (K1 w.params).In g) (TT : Top p loose mean mg mb g) (CH : CodeHd g 197 193) (U : Under g s.heap [(193, tabObj #[])]) (hdp : dp + 15 < 1000) (hu : un + 60 < 9900)
   (hQ : ∀ x dx f c cc co oc ctv ps h' tk, Under g h' [(x, foldObj w 65 dx f [] 0), (dx, bag0), (f, lamObj1 (stAt 23) lamQual1 c ((mg "__name__").getD .none) cc ctv), (c, co), (cc, oc), (193, tabObj ps)] →
      co.data = .cell (some (.ref x)) → (∃ vs t, oc.data = .fields vs ∧ vs[1]? = some (.str lamQual1 t)) → @LT.lt Nat _ 193 x → ((@Ne Nat dx 193) ∧ (@Ne Nat f 193) ∧ (@Ne Nat c 193) ∧ (@Ne Nat cc 193)) → Q (.ref x) { s with heap := h', toks := tk })
   , wpAny (model PySem.Challenge.rw_il0142_01.row.prog w) (Ar dp un fr gd) (call (.ref 198) []) Q E s := by
  k_fill
  intro w dp un fr gd s Q E p loose mean mg mb g X TT CH U hdp hu hQ
  have T := topRead_of TT
  refine' enterC0 [] (Str.ofString "book") ?X ?T ?U ?ho ?hcd ?hroom ?hbind ?hcs ?hkind ?hval ?_ ?hco ?hgen ?hk
  case X => assumption
  case T => assumption
  case U => assumption
  case ho => k_is
  case hcd => k_is
  case hroom => exact roomE (by assumption)
  case hbind => exact rfl
  case hcs => exact fun _ => rfl
  case hkind => exact List.forall_mem_nil _
  case hval => exact fun _ => rfl
  case hco => exact rfl
  case hgen => exact rfl
  case hk => exact rfl
  intro L' c h₁ tk o Fa Na hod k₁ hc
  obtain ⟨oc, od, odt, osl⟩ := o
  dsimp only at hod
  subst hod
  try dsimp only
  k_fold
  k_steps
  have hcn : AllNe c [((193 : Addr), tabObj #[])] := allNe_of fun p hp e => by rw [← e, (U.at_ p hp).1] at hc; cases hc
  simp only [AllNe] at hcn
  refine kla_eval rfl ?_
  refine' kla_nest Fa Na TT CH ?cd ?U ?trip ?among ?cl ?_
  case cd => exact rfl
  case U => k_updF
  case trip => exact True.intro
  case among => exact rfl
  case cl => exact rfl
  intro f' c' oc' vs' t' ct' h' tk' F' N' d1' d2' l1 l2
  (try dsimp only at N')
  clear Fa Na
  k_steps
  unfold Stop
  have a1 : @LT.lt Nat _ c c' := l1 _ (.head _)
  have a2 : @LT.lt Nat _ 193 c' := l1 _ (.tail _ (.head _))
  have a3 : @LT.lt Nat _ c' f' := l2
  have fo := (N' _ (.head _)).1
  have a4 : @LT.lt Nat _ f' h'.objs.size := Heap.lt_size fo
  have hk : ∀ b o, g.get? b = some o → h'.get? b = some o := F'.keep
  obtain ⟨nm, bs, sn, sub, col, dd, k0, kk1, k2, k3, k5, hC⟩ := fd_full (P := w.params)
  obtain ⟨ol, hl1⟩ := fd_last (P := w.params)
  obtain ⟨on, es, ep, hn1, hn2, hn3, hn4⟩ := fd_ns (P := w.params)
  refine call_D (hk _ _ (X _ _ hC)) (mN := nsFind es) ⟨on, es, ep, hk _ _ (X _ _ hn1), hn2, hn3, fun _ => rfl⟩ hn4 fo rfl (fun h2 M => ?_)
  have hbig : @LT.lt Nat _ 193 (h'.objs.size + 1) := Nat.lt_succ_of_lt (Nat.lt_trans a2 (Nat.lt_trans a3 a4))
  have hbd : @LT.lt Nat _ 193 h'.objs.size := Nat.lt_trans a2 (Nat.lt_trans a3 a4)
  have F2 := F'.keeps M.keeps
  have N2 : News g L' h2 ((h'.objs.size + 1, foldObj w 65 h'.objs.size f' [] 0) :: (h'.objs.size, bag0) :: _) := news_two F' N' M.keeps (Heap.get?_none_of_le (Nat.le_succ _)) (Heap.get?_none_of_le (Nat.le_refl _)) M.fold M.bag
  have a5 : @LT.lt Nat _ h'.objs.size (h'.objs.size + 1) := Nat.lt_succ_self _
  clear F' N' M
  generalize h'.objs.size + 1 = x at *
  generalize h'.objs.size = dx at *
  k_steps
  refine' storeX_C F2 N2 ?c ?U ?d ?_ ?a ?b
  case a => rfl
  case b => rfl
  case c => rfl
  case U => k_updF
  case d => rfl
  intro h3 o' F3 N3 d3
  k_steps
  exact hQ x dx f' c c' _ _ _ _ _ _ (fr_under F3 N3 (by walk_at "my sub")) d3 ⟨vs', t', d1', d2'⟩ hbig ⟨Nat.ne_of_gt hbd, Nat.ne_of_gt (Nat.lt_trans a2 a3), fun e => hcn.1 e.symm, Nat.ne_of_gt a2⟩
end
section

local macro_rules | `(tactic| walk_at "call builtin:str.strip") => `(tactic| (k_here; refine stop ?_))
theorem pick_init (vs : List Value) : slicePick vs.toArray none (some (-1)) none = vs.dropLast.toArray := by
  have e : sliceBounds none (some (-1)) none vs.toArray.size = (((0 : Nat) : Int), ((vs.length - 1 : Nat) : Int), 1) := by
    unfold sliceBounds
    simp only [List.size_toArray]
    refine Prod.ext ?_ (Prod.ext ?_ rfl)
    · rfl
    · have h1 : (none : Option Int).getD 1 > 0 := by decide
      dsimp only
      rw [if_pos h1, if_pos (by decide)]
      generalize vs.length = n
      cases n with
      | zero => rfl
      | succ n => rw [neg1, Int.min_eq_left (Int.ofNat_le.mpr (Nat.le_succ n)), Int.max_eq_right (Int.natCast_nonneg n)]; rfl
  rw [kmk_pick_nat _ e]
  simp [List.dropLast_eq_take]
theorem strs_init {vs : List Value} {ys : List Str} (h : StrsAre vs ys) : StrsAre vs.dropLast ys.dropLast := by
  rcases lsnoc vs with rfl | ⟨a, b, rfl⟩
  · cases h; exact .nil
  · obtain ⟨zs, y, t, rfl, rfl, h2⟩ := strsAre_unsnoc h
    simpa using h2
theorem any_two1 (w : Str) : ([Str.ofString "", Str.ofString "."].any fun x => x == w) = (w == Str.ofString "" || w == Str.ofString ".") := by
  have key : ∀ a : Str, (a == w) = (w == a) := fun a => by
    by_cases h : a = w
    · rw [h]
    · rw [beq_eq_false_iff_ne.mpr h, beq_eq_false_iff_ne.mpr (fun e => h e.symm)]
  simp only [List.any_cons, List.any_nil, Bool.or_false, key]

noncomputable def lawStep1 (ns : List Str) (b : Str) : List Str :=
  if (Txt.slice b none (some 1) == Str.ofString "/") = true then [Txt.stripChars b (Str.ofString "/")]
  else if (b == Str.ofString "..") = true then ns.dropLast
  else if (b == Str.ofString "" || b == Str.ofString ".") = true then ns
  else ns ++ [b]
theorem names_ct1 : ∀ {w : World} {dp un : Nat} {fr : Option (List Env)} {gd : Option (List Code)} {s : Shared} {Q E : Value → Shared → Prop} {nm st : Addr} {vs ws : List Value} {nn sn : Nat} {ns bs : List Str}
   {p loose mg mb} {g : Heap}
   (X : (K1 w.params).In g) (T : TopRead p loose mg mb g) (U : Under g s.heap [(nm, listOf vs.toArray nn)]) (hdp : dp + 8 < 1000) (hu : un + 60 < 9900)
   (hst : g.get? st = some (listOf ws.toArray sn)) (hws : StrsAre ws bs) (hvs : StrsAre vs ns) (hlen : ns.length + bs.length ≤ 1000) (hbl : ∀ b ∈ bs, b.length ≤ 1000)
   (hQ : ∀ a us un h' tk, Under g h' [(a, listOf (us : List Value).toArray un), (nm, listOf vs.toArray nn)] → StrsAre us (bs.foldl lawStep1 ns) → Q (.ref a) { s with heap := h', toks := tk })
   , wpAny (model PySem.Challenge.rw_il0142_01.row.prog w) (Ar dp un fr gd) (call (.ref 219) [.ref nm, .ref st]) Q E s := by
  k_fill
  intro w dp un fr gd s Q E nm st vs ws nn sn ns bs p loose mg mb g X T U hdp hu hst hws hvs hlen hbl hQ
  refine' enterG [(Str.ofString "names", .ref nm), (Str.ofString "steps", .ref st)] ?X ?T ?U ?ho ?hcd ?hroom ?hbind ?hloc ?_ ?hco ?hgen ?hk ?hcell
  case U => assumption
  walk_at "my enter"
  k_steps
  unfold Stop
  rename Fr _ _ _ _ => F
  rename News _ _ _ _ => N
  refine for_list2 (σ := Addr × List Value × Nat) (fun c => [(c.1, listOf c.2.1.toArray c.2.2), (nm, listOf vs.toArray nn)]) (fun c => [(Str.ofString "names", .ref c.1)])
    (fun i c => StrsAre c.2.1 ((bs.take i).foldl lawStep1 ns) ∧ c.2.1.length ≤ ns.length + i + 1) (nm, vs, nn) rfl (.inr hst) F (fun e he => N e (by rcases mem2 he with rfl | rfl <;> exact .head _)) ⟨.head _, .tail _ (.head _), trivial⟩ ⟨rfl, trivial⟩ ⟨hvs, by rw [strsAre_len hvs]; exact Nat.le_succ _⟩ ?_ ?_
  · rintro i v ⟨na, us, un'⟩ h tk I it u hv ⟨hP1, hP2⟩ F' N' hcl hne
    obtain ⟨b, tb, rfl, hb⟩ := strsAre_get hws hv
    dsimp only [chain] at F' N' hP1 hP2
    simp only [AllNe, and_true] at hne
    have hil : i < bs.length := (List.getElem?_eq_some_iff.mp hb).1
    have hbb := hbl b (List.mem_of_getElem? hb)
    have hstep : (bs.take (i + 1)).foldl lawStep1 ns = lawStep1 ((bs.take i).foldl lawStep1 ns) b := take_foldl _ _ _ hb
    clear F N
    k_steps
    · unfold Stop
      refine SCL.stripChars (hsz := ?hsz) ?_
      case hsz => (rw [sizeLine_eq]; omega)
      intro hz1 hz2 hz3
      k_steps
      refine TEnd2.intro (_, [.str (Txt.stripChars b (Str.ofString "/")) hz1], 0) (by assumption) (by assumption) ⟨by k_mem, by k_mem, trivial⟩ (by k_mem) ⟨.inl (by simp), .inl (by simp), trivial⟩ ⟨rfl, trivial⟩ ⟨?_, ?_⟩
      · rw [hstep]; unfold lawStep1; rw [if_pos (by assumption)]
        exact .cons _ _ .nil
      · show 1 ≤ _; omega
    · (rename News _ _ _ _ => NE)
      rw [pick_init] at NE
      refine TEnd2.intro (_, us.dropLast, 0) (by assumption) NE ⟨by k_mem, by k_mem, trivial⟩ (by k_mem) ⟨.inl (by simp), .inl (by simp), trivial⟩ ⟨rfl, trivial⟩ ⟨?_, ?_⟩
      · rw [hstep]; unfold lawStep1; rw [if_neg (by rw [Bool.not_eq_true]; assumption), if_pos (by assumption)]
        exact strs_init hP1
      · simp only [List.length_dropLast]; omega
    · refine TEnd2.intro (_, us, _) (by assumption) (by assumption) ⟨by k_mem, by k_mem, trivial⟩ (by k_mem) ⟨.inl (by simp), .inl (by simp), trivial⟩ ⟨rfl, trivial⟩ ⟨?_, ?_⟩
      · rw [hstep]; unfold lawStep1; rw [if_neg (by rw [Bool.not_eq_true]; assumption), if_neg (by rw [Bool.not_eq_true]; assumption), if_pos (by rw [← any_two1]; assumption)]
        exact hP1
      · dsimp only; omega
    · (rename News _ _ _ _ => NE)
      refine TEnd2.intro (_, us ++ [.str b tb], 0) (by assumption) NE ⟨by k_mem, by k_mem, trivial⟩ (by k_mem) ⟨.inl (by simp), .inl (by simp), trivial⟩ ⟨rfl, trivial⟩ ⟨?_, ?_⟩
      · rw [hstep]; unfold lawStep1; rw [if_neg (by rw [Bool.not_eq_true]; assumption), if_neg (by rw [Bool.not_eq_true]; assumption), if_neg (by rw [← any_two1, Bool.not_eq_true]; assumption)]
        exact strsAre_snoc (by assumption) _ _
      · simp only [List.length_append, List.length_cons, List.length_nil]; omega
  · rintro ⟨na, us, un'⟩ h tk u ⟨hP1, hP2⟩ F' N'
    dsimp only [chain] at F' N' hP1 hP2
    rw [strsAre_len hws, List.take_length] at hP1
    k_steps
    rename Fr _ _ _ _ => F3
    rename News _ _ _ _ => N3
    exact hQ _ us un' _ _ (fr_under F3 N3 fun e he => he) hP1
end
section

theorem xs_big1 {x : Addr} (h : @LT.lt Nat _ 193 x) : (x == sysModules) = false := by
  rw [beq_eq_false_iff_ne]
  intro e
  rw [e] at h
  exact absurd h (by decide)
theorem scope_ok3 : ∀ x ∈ ([(Str.ofString "book", NameKind.free), (Str.ofString "len", NameKind.globalImplicit)] : List (Str × NameKind)), x.2 ≠ .cell := by decide
local macro_rules | `(tactic| walk_at "eval Name") => `(tactic| (k_here; (with_reducible show wpAny _ _ (eval (Expr.Name (Str.ofString "book") _) _) _ _ _); k_dflt (refine nameX_F (x := Str.ofString "book") (by assumption) rfl (by assumption) (by assumption) ?_)))
local macro_rules | `(tactic| walk_at "call builtin:len") => `(tactic| (k_here; refine stop ?_))
theorem lam_ct : ∀ {w : World} {dp un : Nat} {fr : Option (List Env)} {gd : Option (List Code)} {s : Shared} {Q E : Value → Shared → Prop} {x dx f c cc : Addr} {co oc bag : Obj} {pm ctv : Value} {kids : List Kid} {n : Nat}
   {p loose mg mb} {g : Heap}
   (X : (K1 w.params).In g) (T : TopRead p loose mg mb g) (U : Under g s.heap [(x, foldObj w 65 dx f kids n), (dx, bag), (f, lamObj1 (stAt 23) lamQual1 c pm cc ctv), (c, co), (cc, oc)]) (hdp : dp + 5 < 1000) (hu : un + 40 < 9900)
   (hco : co.data = .cell (some (.ref x))) (hoc : ∃ vs t, oc.data = .fields vs ∧ vs[1]? = some (.str lamQual1 t)) (hk : kids.length ≤ 1000) (hbig : @LT.lt Nat _ 193 x)
   (hQ : ∀ t h' tk, Keeps s.heap h' → s.heap.objs.size ≤ h'.objs.size → Q (.int ((kids.length : Int) + 1) t) { s with heap := h', toks := tk })
   , wpAny (model PySem.Challenge.rw_il0142_01.row.prog w) (Ar dp un fr gd) (call (.ref f) []) Q E s := by
  k_fill
  intro w dp un fr gd s Q E x dx f c cc co oc bag pm ctv kids n p loose mg mb g X T U hdp hu hco hoc hk hbig hQ
  obtain ⟨vs, tq, hoc1, hoc2⟩ := hoc
  have hf := (U.at_ (f, lamObj1 (stAt 23) lamQual1 c pm cc ctv) (by k_mem)).1
  have hcc := (U.at_ (cc, oc) (by k_mem)).1
  refine wpAny_call (kla_callFunE (A := _) ?hroom hf rfl rfl rfl rfl ⟨cc, oc, vs, tq, rfl, hcc, hoc1, hoc2⟩ ?_)
  case hroom => exact roomE (by assumption)
  refine wpAny_of_eq (a := []) rfl ?_
  refine wpAny_newFunctionEnv (scope_ok3) (locs rfl) (fun h₄ hns hsb => ⟨(T.nolimit.keeps U.kg).fresh _ hsb, ?_⟩) rfl
  have hk₄ : ∀ b o, s.heap.get? b = some o → h₄.get? b = some o := fun b o e => hsb.extBut b o (Nat.ne_of_lt (Heap.lt_size e)) (Heap.get?_push_of_some _ e)
  have F4 : Fr g s.heap.objs.size h₄ (fun _ => none) := ⟨by simpa using hns, fun b o e => hk₄ _ _ (U.kg _ _ e), U.sz⟩
  have N4 : News g s.heap.objs.size h₄ [(x, foldObj w 65 dx f kids n), (dx, bag), (f, lamObj1 (stAt 23) lamQual1 c pm cc ctv), (c, co), (cc, oc)] := fun p hp => ⟨hk₄ _ _ (U.at_ p hp).1, Nat.ne_of_lt (Heap.lt_size (U.at_ p hp).1), (U.at_ p hp).2⟩
  have X4 : (K1 w.params).In h₄ := X.keeps F4.keep
  have I4 : InstAt h₄ x (foldObj w 65 dx f kids n) 65 (some bag) := ⟨(N4 _ (.head _)).1, rfl, rfl, (N4 _ (.tail _ (.head _))).1⟩
  refine kla_codeExpr (PySem.wpAny_mono (E := fun _ _ => False) ?_ (fun _ _ e => e) (fun _ _ e => e.elim))
  with_unfolding_all show wpAny _ ((Ar dp un fr gd).deeper (envX lamQual1 ⟨.function, [(Str.ofString "book", .free), (Str.ofString "len", .globalImplicit)], false, false, []⟩ s.heap.objs.size f (.ref cc) [(Str.ofString "book", c)])) (eval _ (envX lamQual1 ⟨.function, [(Str.ofString "book", .free), (Str.ofString "len", .globalImplicit)], false, false, []⟩ s.heap.objs.size f (.ref cc) [(Str.ofString "book", c)])) _ _ _
  generalize lamObj1 (stAt 23) lamQual1 c pm cc ctv = of at N4
  have hcm : (c, co) ∈ [(x, foldObj w 65 dx f kids n), (dx, bag), (f, of), (c, co), (cc, oc)] := by k_mem
  k_steps
  unfold Stop
  refine fold_len X4 I4 (by k_is) (by k_is) (by k_is) (xs_big1 hbig) (Nat.le_trans hk (by decide)) (fun t1 t2 => ?_)
  k_steps
  exact hQ _ h₄ _ hk₄ (Nat.le_of_lt F4.ns.lt)
end
section

structure Fz1 where
  tk0 : Tok
  lam : Addr
  c : Addr
  cc : Addr
  co : Obj
  oc : Obj
  ctv : Value
structure BK where
  x : Addr
  dx : Addr
  f : Addr
  c : Addr
  cc : Addr
  co : Obj
  oc : Obj
  ctv : Value
  kids : List Kid
  n : Nat
  fz : Option Fz1
noncomputable def BK.bag (B : BK) (w : World) : Obj := match B.fz with | none => bag0 | some z => bagF w z.tk0 (.ref z.lam)
noncomputable def BK.fold (B : BK) (w : World) : Obj := foldObj w 65 B.dx B.f B.kids B.n
noncomputable def BK.tab (B : BK) (pm : Value) : List Row := match B.fz with
  | none => [(57, tabObj #[])]
  | some z => [(57, tabObj #[rawInt 12, rawInt 23, .ref z.cc]), (z.cc, z.oc), (z.lam, lamObj (inClass (stAt 3) 1) lamQual z.c pm z.cc z.ctv), (z.c, z.co)]
noncomputable def BK.objs (B : BK) (w : World) (pm : Value) : List Row := (B.x, B.fold w) :: (B.dx, B.bag w) :: (B.f, lamObj1 (stAt 23) lamQual1 B.c pm B.cc B.ctv) :: (B.c, B.co) :: (B.cc, B.oc) :: B.tab pm
structure BKOk (B : BK) : Prop where
  co : B.co.data = .cell (some (.ref B.x))
  oc : ∃ vs t, B.oc.data = .fields vs ∧ vs[1]? = some (.str lamQual1 t)
  big : @LT.lt Nat _ 193 B.x
  len : B.kids.length ≤ 1000
  fz : ∀ z, B.fz = some z → z.co.data = .cell (some (.ref B.x)) ∧ ∃ vs t, z.oc.data = .fields vs ∧ vs[1]? = some (.str lamQual t)
noncomputable def BK.add (B : BK) (y : Str) (t t' : Tok) : BK := { B with kids := B.kids ++ [(y, t, .int ((B.kids.length : Int) + 1) t')], n := B.n + 1 }
/-- the rows of the book that are not the folder -/
theorem book_tail {B : BK} (W : BKOk B) {w : World} {pm : Value} {e : Row} (he : e ∈ (B.objs w pm).tail) : e.2.cls ≠ .ref 65 ∨ ∀ es n, e.2.data ≠ .dict es n := by
  obtain ⟨vs, t, h1, _⟩ := W.oc
  rcases List.mem_cons.mp he with rfl | he
  · left; show (B.bag w).cls ≠ _; unfold BK.bag; split <;> exact fun e => nomatch e
  rcases List.mem_cons.mp he with rfl | he
  · left; exact fun e => nomatch e
  rcases List.mem_cons.mp he with rfl | he
  · right; intro es n; show B.co.data ≠ _; rw [W.co]; exact fun e => nomatch e
  rcases List.mem_cons.mp he with rfl | he
  · right; intro es n; show B.oc.data ≠ _; rw [h1]; exact fun e => nomatch e
  revert he; unfold BK.tab
  cases hz : B.fz with
  | none => intro he; rw [List.mem_singleton.mp he]; right; exact fun es n e => nomatch e
  | some z =>
    obtain ⟨z1, vs2, t2, z2, _⟩ := W.fz z hz
    intro he
    rcases mem4 he with rfl | rfl | rfl | rfl
    · right; exact fun es n e => nomatch e
    · right; intro es n; show z.oc.data ≠ _; rw [z2]; exact fun e => nomatch e
    · left; exact fun e => nomatch e
    · right; intro es n; show z.co.data ≠ _; rw [z1]; exact fun e => nomatch e
theorem book_ne {B : BK} (W : BKOk B) {w : World} {pm : Value} {g h : Heap} (U : Under g h (B.objs w pm)) {e : Row} (he : e ∈ (B.objs w pm).tail) : e.1 ≠ B.x := fun q => by
  have h1 := (U.at_ e (List.mem_cons_of_mem _ he)).1
  have h2 := (U.at_ (B.x, B.fold w) (.head _)).1
  dsimp only at h2
  rw [q, h2] at h1
  have h3 := Option.some.inj h1
  rcases book_tail W he with k | k
  · exact k (by rw [← h3]; rfl)
  · exact k _ _ (by rw [← h3]; rfl)
theorem book_add {B : BK} (W : BKOk B) {w : World} {pm : Value} {g h h' : Heap} {y : Str} {t t' : Tok} (U : Under g h (B.objs w pm)) (hk : ∀ b o, b ≠ B.x → h.get? b = some o → h'.get? b = some o) (hz : h.objs.size ≤ h'.objs.size)
    (hx : h'.get? B.x = some ((B.add y t t').fold w)) : Under g h' ((B.add y t t').objs w pm) := by
  refine ⟨fun b o e => hk b o (fun q => ?_) (U.kg _ _ e), Nat.le_trans U.sz hz, fun p hp => ?_⟩
  · have := (U.at_ (B.x, B.fold w) (.head _)).2
    rw [q, this] at e; cases e
  · rcases List.mem_cons.mp hp with rfl | hp
    · exact ⟨hx, (U.at_ (B.x, B.fold w) (.head _)).2⟩
    · have hp' : p ∈ (B.objs w pm).tail := hp
      exact ⟨hk _ _ (book_ne W U hp') (U.at_ p (List.mem_cons_of_mem _ hp')).1, (U.at_ p (List.mem_cons_of_mem _ hp')).2⟩
theorem book_inst {B : BK} {w : World} {pm : Value} {g h : Heap} (U : Under g h (B.objs w pm)) : InstAt h B.x (B.fold w) 65 (some (B.bag w)) := ⟨(U.at_ (B.x, B.fold w) (.head _)).1, rfl, rfl, (U.at_ (B.dx, B.bag w) (.tail _ (.head _))).1⟩
theorem under_ne {g h : Heap} {l : List Row} (U : Under g h l) {a b : Row} (ha : a ∈ l) (hb : b ∈ l) (hne : a.2.cls ≠ b.2.cls) : b.1 ≠ a.1 := fun e => by
  have h1 := (U.at_ a ha).1
  have h2 := (U.at_ b hb).1
  rw [e, h1] at h2
  exact hne (congrArg Obj.cls (Option.some.inj h2))
theorem under_neF {α : Type} (k : Obj → α) {g h : Heap} {l : List Row} (U : Under g h l) {a b : Row} (ha : a ∈ l) (hb : b ∈ l) (hne : k a.2 ≠ k b.2) : b.1 ≠ a.1 := fun e => by
  have h1 := (U.at_ a ha).1
  have h2 := (U.at_ b hb).1
  rw [e, h1] at h2
  exact hne (congrArg k (Option.some.inj h2))
noncomputable def fnName (o : Obj) : Option Str := match o.data with | .func fd => some fd.qualname | _ => none
theorem book_get : ∀ {w : World} {dp un : Nat} {fr : Option (List Env)} {gd : Option (List Code)} {s : Shared} {Q E : Value → Shared → Prop} {B : BK} {y : Str} {t : Tok} {pm : Value}
   {p loose mg mb} {g : Heap}
   (X : (K1 w.params).In g) (T : TopRead p loose mg mb g) (U : Under g s.heap (B.objs w pm)) (W : BKOk B) (hdp : dp + 25 < 1000) (hu : un + 120 < 9900)
   (hit : ∀ v, kfind B.kids y = some v → ∀ tk, Q v { s with toks := tk })
   (made : kfind B.kids y = none → B.fz = none → ∀ t' h' tk, Under g h' ((B.add y t t').objs w pm) → Q (.int ((B.kids.length : Int) + 1) t') { s with heap := h', toks := tk })
   (lost : kfind B.kids y = none → B.fz.isSome = true → ∀ t' h' tk, Keeps s.heap h' → s.heap.objs.size ≤ h'.objs.size → Q (.int ((B.kids.length : Int) + 1) t') { s with heap := h', toks := tk })
   , wpAny (model PySem.Challenge.rw_il0142_01.row.prog w) (Ar dp un fr gd) (getItem (.ref B.x) (.str y t)) Q E s := by
  k_fill
  intro w dp un fr gd s Q E B y t pm p loose mg mb g X T U W hdp hu hit made lost
  have I := book_inst U
  have Xh : (K1 w.params).In s.heap := X.keeps U.kg
  have hxs := xs_big1 W.big
  obtain ⟨h, gg, d, tk, os⟩ := s
  cases hkf : kfind B.kids y with
  | some v => exact item_hit Xh I (seq_none Xh) (by k_is) (by k_is) hkf (hit v hkf _)
  | none =>
  have hm : ∃ om, (K1 w.params).lookup 55 = some om ∧ om.cls = .type "function" := ⟨_, by k_is, rfl⟩
  obtain ⟨om, hm1, hm2⟩ := hm
  refine item_miss (fm := 55) (om := om) Xh I (seq_none Xh) (by k_is) (by k_is) hxs (by k_is) (Xh _ _ hm1) hm2 hkf ?_
  have hfn := U.at_ (B.f, lamObj1 (stAt 23) lamQual1 B.c pm B.cc B.ctv) (.tail _ (.tail _ (.head _)))
  cases hz : B.fz with
  | none =>
    have hb0 : B.bag w = bag0 := by unfold BK.bag; rw [hz]
    have hdm : (B.dx, bag0) ∈ B.objs w pm := by rw [← hb0]; exact .tail _ (.head _)
    have H := Under.hid (l := [(B.x, foldObj w 65 B.dx B.f B.kids B.n), (B.dx, bag0)]) U (fun e he => by
      rcases mem2 he with rfl | rfl
      · exact .head _
      · exact hdm)
    have hfg : (hid h [(B.x, foldObj w 65 B.dx B.f B.kids B.n), (B.dx, bag0)]).get? B.f = some (lamObj1 (stAt 23) lamQual1 B.c pm B.cc B.ctv) := hid_at hfn.1 fun e he => by
      rcases mem2 he with rfl | rfl
      · exact (book_ne W U (e := (B.f, lamObj1 (stAt 23) lamQual1 B.c pm B.cc B.ctv)) (.tail _ (.head _))).symm
      · exact under_ne U (a := (B.f, lamObj1 (stAt 23) lamQual1 B.c pm B.cc B.ctv)) (.tail _ (.tail _ (.head _))) hdm (show ¬ Value.type "function" = Value.type "dict" by decide)
    have e1 : (hid h [(B.x, foldObj w 65 B.dx B.f B.kids B.n), (B.dx, bag0)]).objs.size = h.objs.size := hideAll_size _ _
    refine missing_ct (s := ⟨h, gg, d, tk + 1, os⟩) (R := fun v h₀ h₁ => ∃ t', v = .int ((B.kids.length : Int) + 1) t' ∧ h₀.objs.size ≤ h₁.objs.size)
      (X.keeps H.2) (T.keeps H.2) H.1 (by (try dsimp only [Ar, Around.in1, Around.deeper]); exact room0 hdp (by decide)) (by (try dsimp only [Ar, Around.in1, Around.deeper]); exact room1 hu (by decide)) hfg rfl hxs hkf W.len ?_ ?_
    · intro fr' h₀ tk₀ kk hz0
      rw [e1] at hz0
      refine lam_ct (x := B.x) (dx := B.dx) (bag := B.bag w) (kids := B.kids) (n := B.n) X T ⟨fun b o e => kk _ _ (U.kg _ _ e), Nat.le_trans U.sz hz0, fun q hq => ⟨kk _ _ (U.at_ q (List.mem_append_left (B.tab pm) hq)).1, (U.at_ q (List.mem_append_left (B.tab pm) hq)).2⟩⟩ (by (try dsimp only [Ar, Around.in1, Around.deeper]); exact room1 hdp (by decide)) (by (try dsimp only [Ar, Around.in1, Around.deeper]); omega) W.co W.oc W.len W.big (fun t' h1 tk1 k1 z1 => ?_)
      exact ⟨h1, tk1, rfl, k1, t', rfl, z1⟩
    · rintro v h₀ h₁ h' tk' kk k1 hz0 ⟨t', rfl, hsz⟩ hs hx'
      rw [e1] at hz0
      refine made hkf hz t' h' tk' (book_add W U (fun b o hb e => (hs.2 b hb).trans (k1 _ _ (kk _ _ e))) (by rw [hs.1]; exact Nat.le_trans hz0 hsz) hx')
  | some z =>
    have hb0 : B.bag w = bagF w z.tk0 (.ref z.lam) := by unfold BK.bag; rw [hz]
    obtain ⟨z1, z2⟩ := W.fz z hz
    have htab : B.tab pm = [(57, tabObj #[rawInt 12, rawInt 23, .ref z.cc]), (z.cc, z.oc), (z.lam, lamObj (inClass (stAt 3) 1) lamQual z.c pm z.cc z.ctv), (z.c, z.co)] := by unfold BK.tab; rw [hz]
    have ht : ∀ e ∈ [((57 : Addr), tabObj #[rawInt 12, rawInt 23, .ref z.cc]), (z.cc, z.oc), (z.lam, lamObj (inClass (stAt 3) 1) lamQual z.c pm z.cc z.ctv), (z.c, z.co)], e ∈ B.objs w pm := fun e he => List.mem_append_right [_, _, _, _, _] (show e ∈ B.tab pm by rw [htab]; exact he)
    have H := Under.hid (l := [(B.x, foldObj w 65 B.dx B.f B.kids B.n), (B.dx, bagF w z.tk0 (.ref z.lam)), (z.lam, lamObj (inClass (stAt 3) 1) lamQual z.c pm z.cc z.ctv), (z.c, z.co), (z.cc, z.oc)]) U (fun e he => by
      rcases mem5 he with rfl | rfl | rfl | rfl | rfl
      · exact .head _
      · rw [← hb0]; exact .tail _ (.head _)
      · exact ht _ (by k_mem)
      · exact ht _ (by k_mem)
      · exact ht _ (by k_mem))
    have e1 : (hid h [(B.x, foldObj w 65 B.dx B.f B.kids B.n), (B.dx, bagF w z.tk0 (.ref z.lam)), (z.lam, lamObj (inClass (stAt 3) 1) lamQual z.c pm z.cc z.ctv), (z.c, z.co), (z.cc, z.oc)]).objs.size = h.objs.size := hideAll_size _ _
    obtain ⟨vs2, t2, z3, z4⟩ := z2
    have hfg : (hid h [(B.x, foldObj w 65 B.dx B.f B.kids B.n), (B.dx, bagF w z.tk0 (.ref z.lam)), (z.lam, lamObj (inClass (stAt 3) 1) lamQual z.c pm z.cc z.ctv), (z.c, z.co), (z.cc, z.oc)]).get? B.f = some (lamObj1 (stAt 23) lamQual1 B.c pm B.cc B.ctv) := hid_at hfn.1 fun e he => by
      rcases mem5 he with rfl | rfl | rfl | rfl | rfl
      · exact (book_ne W U (e := (B.f, lamObj1 (stAt 23) lamQual1 B.c pm B.cc B.ctv)) (.tail _ (.head _))).symm
      · exact under_ne U (a := (B.f, lamObj1 (stAt 23) lamQual1 B.c pm B.cc B.ctv)) (.tail _ (.tail _ (.head _))) (H.1.at_ |> fun _ => by rw [← hb0]; exact .tail _ (.head _)) (show ¬ Value.type "function" = Value.type "dict" by decide)
      · exact under_neF fnName U (a := (B.f, lamObj1 (stAt 23) lamQual1 B.c pm B.cc B.ctv)) (.tail _ (.tail _ (.head _))) (ht _ (by k_mem)) (show ¬ some lamQual1 = some lamQual by decide +kernel)
      · exact under_neF fnName U (a := (B.f, lamObj1 (stAt 23) lamQual1 B.c pm B.cc B.ctv)) (.tail _ (.tail _ (.head _))) (ht _ (by k_mem)) (by show some _ ≠ fnName z.co; unfold fnName; rw [z1]; exact fun e => nomatch e)
      · exact under_neF fnName U (a := (B.f, lamObj1 (stAt 23) lamQual1 B.c pm B.cc B.ctv)) (.tail _ (.tail _ (.head _))) (ht _ (by k_mem)) (by show some _ ≠ fnName z.oc; unfold fnName; rw [z3]; exact fun e => nomatch e)
    refine fmissing_ct (s := ⟨h, gg, d, tk + 1, os⟩) (kids := B.kids) (n := B.n) (R := fun v h₀ h₁ => ∃ t', v = .int ((B.kids.length : Int) + 1) t' ∧ h₀.objs.size ≤ h₁.objs.size)
      (X.keeps H.2) (T.keeps H.2) H.1 (by (try dsimp only [Ar, Around.in1, Around.deeper]); exact room0 hdp (by decide)) (by (try dsimp only [Ar, Around.in1, Around.deeper]); exact room1 hu (by decide)) z1 ⟨vs2, t2, z3, z4⟩ hfg rfl ?_ ?_
    · intro fr' h₀ tk₀ kk hz0
      rw [e1] at hz0
      refine lam_ct (x := B.x) (dx := B.dx) (bag := B.bag w) (kids := B.kids) (n := B.n) X T ⟨fun b o e => kk _ _ (U.kg _ _ e), Nat.le_trans U.sz hz0, fun q hq => ⟨kk _ _ (U.at_ q (List.mem_append_left (B.tab pm) hq)).1, (U.at_ q (List.mem_append_left (B.tab pm) hq)).2⟩⟩ (by (try dsimp only [Ar, Around.in1, Around.deeper]); exact room1 hdp (by decide)) (by (try dsimp only [Ar, Around.in1, Around.deeper]); omega) W.co W.oc W.len W.big (fun t' h1 tk1 k1 z1 => ?_)
      exact ⟨h1, tk1, rfl, k1, t', rfl, z1⟩
    · rintro v h₀ h₁ tk' kk k1 hz0 ⟨t', rfl, hsz⟩
      rw [e1] at hz0
      exact lost hkf (by rw [hz]; rfl) t' h₁ tk' (fun b o e => k1 _ _ (kk _ _ e)) (Nat.le_trans hz0 hsz)
end
section

theorem book_freeze : ∀ {w : World} {dp un : Nat} {fr : Option (List Env)} {gd : Option (List Code)} {s : Shared} {Q E : Value → Shared → Prop} {B : BK}
   {p loose mean mg mb} {g : Heap}
   (X : (K1 w.params).In g) (TT : Top p loose mean mg mb g) (CH : CodeHd g 61 57) (U : Under g s.heap (B.objs w ((mg "__name__").getD .none))) (W : BKOk B) (hdp : dp + 15 < 1000) (hu : un + 60 < 9900)
   (hQ : ∀ z h' tk, Under g h' (({ B with fz := some z } : BK).objs w ((mg "__name__").getD .none)) → BKOk { B with fz := some z } → Q .none { s with heap := h', toks := tk })
   , wpAny (model PySem.Challenge.rw_il0142_01.row.prog w) (Ar dp un fr gd) (call (.ref 62) [.ref B.x]) Q E s := by
  k_fill
  intro w dp un fr gd s Q E B p loose mean mg mb g X TT CH U W hdp hu hQ
  have hd := (U.at_ (B.dx, B.bag w) (.tail _ (.head _)))
  have hxd : @Ne Nat B.x B.dx := (book_ne W U (e := (B.dx, B.bag w)) (.head _)).symm
  have frow : (B.f, lamObj1 (stAt 23) lamQual1 B.c ((mg "__name__").getD .none) B.cc B.ctv) ∈ B.objs w ((mg "__name__").getD .none) := .tail _ (.tail _ (.head _))
  have crow : (B.c, B.co) ∈ B.objs w ((mg "__name__").getD .none) := .tail _ (.tail _ (.tail _ (.head _)))
  have ccrow : (B.cc, B.oc) ∈ B.objs w ((mg "__name__").getD .none) := .tail _ (.tail _ (.tail _ (.tail _ (.head _))))
  cases hz : B.fz with
  | none =>
    have hb0 : B.bag w = bag0 := by unfold BK.bag; rw [hz]
    have htab : B.tab ((mg "__name__").getD .none) = [(57, tabObj #[])] := by unfold BK.tab; rw [hz]
    have h57 : ((57 : Addr), tabObj #[]) ∈ B.objs w ((mg "__name__").getD .none) := List.mem_append_right [_, _, _, _, _] (show _ ∈ B.tab _ by rw [htab]; exact .head _)
    have hdm : (B.dx, bag0) ∈ B.objs w ((mg "__name__").getD .none) := by rw [← hb0]; exact .tail _ (.head _)
    have hx57 : @Ne Nat B.x 57 := (book_ne W U (e := ((57 : Addr), tabObj #[])) (List.mem_append_right [_, _, _, _] (show _ ∈ B.tab _ by rw [htab]; exact .head _))).symm
    have hd57 : @Ne Nat B.dx 57 := under_ne U h57 hdm (fun e => nomatch e)
    have H := Under.hid (l := [(B.x, foldObj w 65 B.dx B.f B.kids B.n), (B.dx, bag0), (57, tabObj #[])]) U (fun e he => by
      rcases mem3 he with rfl | rfl | rfl
      · exact .head _
      · exact hdm
      · exact h57)
    have keep : ∀ e ∈ B.objs w ((mg "__name__").getD .none), (∀ q ∈ [(B.x, foldObj w 65 B.dx B.f B.kids B.n), (B.dx, bag0), ((57 : Addr), tabObj #[])], q.1 ≠ e.1) → (hid s.heap [(B.x, foldObj w 65 B.dx B.f B.kids B.n), (B.dx, bag0), (57, tabObj #[])]).get? e.1 = some e.2 ∧ g.get? e.1 = none := fun e he hn => ⟨hid_at (U.at_ e he).1 hn, (U.at_ e he).2⟩
    have kf := keep _ frow (fun q hq => by
      rcases mem3 hq with rfl | rfl | rfl
      · exact (book_ne W U (e := (B.f, _)) (.tail _ (.head _))).symm
      · exact under_ne U frow hdm (show ¬ Value.type "function" = Value.type "dict" by decide)
      · exact under_ne U frow h57 (fun e => nomatch e))
    have kc := keep _ crow (fun q hq => by
      rcases mem3 hq with rfl | rfl | rfl
      · exact (book_ne W U (e := (B.c, _)) (.tail _ (.tail _ (.head _)))).symm
      · exact under_neF Obj.data U crow hdm (by show B.co.data ≠ _; rw [W.co]; exact fun e => nomatch e)
      · exact under_neF Obj.data U crow h57 (by show B.co.data ≠ _; rw [W.co]; exact fun e => nomatch e))
    obtain ⟨vso, tto, hoc1, hoc2⟩ := W.oc
    have kcc := keep _ ccrow (fun q hq => by
      rcases mem3 hq with rfl | rfl | rfl
      · exact (book_ne W U (e := (B.cc, _)) (.tail _ (.tail _ (.tail _ (.head _))))).symm
      · exact under_neF Obj.data U ccrow hdm (by show B.oc.data ≠ _; rw [hoc1]; exact fun e => nomatch e)
      · exact under_neF Obj.data U ccrow h57 (by show B.oc.data ≠ _; rw [hoc1]; intro e; rw [Data.fields.inj e] at hoc2; cases hoc2))
    refine freeze_ct (X.keeps H.2) (TT.keeps H.2) (CH.keeps H.2) H.1 (room0 hdp (by decide)) (room0 hu (by decide)) hxd hx57 hd57 (fun lam cc c oc' co ctv tk0 h₂ tk₂ U₂ hco hoc _ _ _ _ _ _ _ _ _ => ?_)
    refine hQ ⟨tk0, lam, c, cc, co, oc', ctv⟩ h₂ tk₂ ⟨fun b o e => U₂.kg _ _ (H.2 _ _ e), ?_, fun p hp => ?_⟩ ⟨W.co, W.oc, W.big, W.len, fun z e => by cases e; exact ⟨hco, hoc⟩⟩
    · have e1 : (hid s.heap [(B.x, foldObj w 65 B.dx B.f B.kids B.n), (B.dx, bag0), (57, tabObj #[])]).objs.size = s.heap.objs.size := hideAll_size _ _
      have e2 := U₂.sz
      rw [e1] at e2
      exact Nat.le_trans U.sz e2
    · have at2 : ∀ e ∈ [(lam, lamObj (inClass (stAt 3) 1) lamQual c ((mg "__name__").getD .none) cc ctv), (cc, oc'), (c, co), (B.x, foldObj w 65 B.dx B.f B.kids B.n), (B.dx, bagF w tk0 (.ref lam)), ((57 : Addr), tabObj #[rawInt 12, rawInt 23, .ref cc])], h₂.get? e.1 = some e.2 ∧ g.get? e.1 = none := fun e he => ⟨(U₂.at_ e he).1, hid_fresh H.2 (U₂.at_ e he).2⟩
      rcases List.mem_cons.mp hp with rfl | hp
      · exact at2 (B.x, foldObj w 65 B.dx B.f B.kids B.n) (by k_mem)
      rcases List.mem_cons.mp hp with rfl | hp
      · exact at2 (B.dx, bagF w tk0 (.ref lam)) (by k_mem)
      rcases List.mem_cons.mp hp with rfl | hp
      · exact ⟨U₂.kg _ _ kf.1, kf.2⟩
      rcases List.mem_cons.mp hp with rfl | hp
      · exact ⟨U₂.kg _ _ kc.1, kc.2⟩
      rcases List.mem_cons.mp hp with rfl | hp
      · exact ⟨U₂.kg _ _ kcc.1, kcc.2⟩
      have hp : p ∈ [((57 : Addr), tabObj #[rawInt 12, rawInt 23, .ref cc]), (cc, oc'), (lam, lamObj (inClass (stAt 3) 1) lamQual c ((mg "__name__").getD .none) cc ctv), (c, co)] := hp
      rcases mem4 hp with rfl | rfl | rfl | rfl
      · exact at2 (57, tabObj #[rawInt 12, rawInt 23, .ref cc]) (by k_mem)
      · exact at2 (cc, oc') (by k_mem)
      · exact at2 (lam, lamObj (inClass (stAt 3) 1) lamQual c ((mg "__name__").getD .none) cc ctv) (by k_mem)
      · exact at2 (c, co) (by k_mem)
  | some z =>
    obtain ⟨z1, vs2, t2, z3, z4⟩ := W.fz z hz
    have hb0 : B.bag w = bagF w z.tk0 (.ref z.lam) := by unfold BK.bag; rw [hz]
    have htab : B.tab ((mg "__name__").getD .none) = [(57, tabObj #[rawInt 12, rawInt 23, .ref z.cc]), (z.cc, z.oc), (z.lam, lamObj (inClass (stAt 3) 1) lamQual z.c ((mg "__name__").getD .none) z.cc z.ctv), (z.c, z.co)] := by unfold BK.tab; rw [hz]
    have h57 : ((57 : Addr), tabObj #[rawInt 12, rawInt 23, .ref z.cc]) ∈ B.objs w ((mg "__name__").getD .none) := List.mem_append_right [_, _, _, _, _] (show _ ∈ B.tab _ by rw [htab]; exact .head _)
    have hzc : (z.cc, z.oc) ∈ B.objs w ((mg "__name__").getD .none) := List.mem_append_right [_, _, _, _, _] (show _ ∈ B.tab _ by rw [htab]; exact .tail _ (.head _))
    have hdm : (B.dx, bagF w z.tk0 (.ref z.lam)) ∈ B.objs w ((mg "__name__").getD .none) := by rw [← hb0]; exact .tail _ (.head _)
    have hx57 : @Ne Nat B.x 57 := (book_ne W U (e := ((57 : Addr), tabObj #[rawInt 12, rawInt 23, .ref z.cc])) (List.mem_append_right [_, _, _, _] (show _ ∈ B.tab _ by rw [htab]; exact .head _))).symm
    have hd57 : @Ne Nat B.dx 57 := under_ne U h57 hdm (fun e => nomatch e)
    have hcd : @Ne Nat z.cc B.dx := under_neF Obj.data U hdm hzc (by show _ ≠ z.oc.data; rw [z3]; exact fun e => nomatch e)
    have H := Under.hid (l := [(B.x, foldObj w 65 B.dx B.f B.kids B.n), (B.dx, bagF w z.tk0 (.ref z.lam)), (57, tabObj #[rawInt 12, rawInt 23, .ref z.cc]), (z.cc, z.oc)]) U (fun e he => by
      rcases mem4 he with rfl | rfl | rfl | rfl
      · exact .head _
      · exact hdm
      · exact h57
      · exact hzc)
    have keep : ∀ e ∈ B.objs w ((mg "__name__").getD .none), (∀ q ∈ [(B.x, foldObj w 65 B.dx B.f B.kids B.n), (B.dx, bagF w z.tk0 (.ref z.lam)), ((57 : Addr), tabObj #[rawInt 12, rawInt 23, .ref z.cc]), (z.cc, z.oc)], q.1 ≠ e.1) → (hid s.heap [(B.x, foldObj w 65 B.dx B.f B.kids B.n), (B.dx, bagF w z.tk0 (.ref z.lam)), (57, tabObj #[rawInt 12, rawInt 23, .ref z.cc]), (z.cc, z.oc)]).get? e.1 = some e.2 ∧ g.get? e.1 = none := fun e he hn => ⟨hid_at (U.at_ e he).1 hn, (U.at_ e he).2⟩
    have kf := keep _ frow (fun q hq => by
      rcases mem4 hq with rfl | rfl | rfl | rfl
      · exact (book_ne W U (e := (B.f, _)) (.tail _ (.head _))).symm
      · exact under_ne U frow hdm (show ¬ Value.type "function" = Value.type "dict" by decide)
      · exact under_ne U frow h57 (fun e => nomatch e)
      · exact under_neF Obj.data U frow hzc (by show _ ≠ z.oc.data; rw [z3]; exact fun e => nomatch e))
    have kc := keep _ crow (fun q hq => by
      rcases mem4 hq with rfl | rfl | rfl | rfl
      · exact (book_ne W U (e := (B.c, _)) (.tail _ (.tail _ (.head _)))).symm
      · exact under_neF Obj.data U crow hdm (by show B.co.data ≠ _; rw [W.co]; exact fun e => nomatch e)
      · exact under_neF Obj.data U crow h57 (by show B.co.data ≠ _; rw [W.co]; exact fun e => nomatch e)
      · exact under_neF Obj.data U crow hzc (by show B.co.data ≠ z.oc.data; rw [W.co, z3]; exact fun e => nomatch e))
    obtain ⟨vso, tto, hoc1, hoc2⟩ := W.oc
    have kcc := keep _ ccrow (fun q hq => by
      rcases mem4 hq with rfl | rfl | rfl | rfl
      · exact (book_ne W U (e := (B.cc, _)) (.tail _ (.tail _ (.tail _ (.head _))))).symm
      · exact under_neF Obj.data U ccrow hdm (by show B.oc.data ≠ _; rw [hoc1]; exact fun e => nomatch e)
      · exact under_neF Obj.data U ccrow h57 (by show B.oc.data ≠ _; rw [hoc1]; intro e; rw [Data.fields.inj e] at hoc2; cases hoc2)
      · exact under_neF Obj.data U ccrow hzc (by show B.oc.data ≠ z.oc.data; rw [hoc1, z3]; intro e; rw [Data.fields.inj e, z4] at hoc2; exact absurd (Value.str.inj (Option.some.inj hoc2)).1 (by decide +kernel)))
    refine freeze3_ct (X.keeps H.2) (TT.keeps H.2) (CH.keeps H.2) H.1 (room0 hdp (by decide)) (room0 hu (by decide)) hxd hx57 hd57 hcd (fun lam c co ctv tk0 h₂ tk₂ U₂ hco _ _ _ _ _ _ _ _ _ _ => ?_)
    refine hQ ⟨tk0, lam, c, z.cc, co, z.oc, ctv⟩ h₂ tk₂ ⟨fun b o e => U₂.kg _ _ (H.2 _ _ e), ?_, fun p hp => ?_⟩ ⟨W.co, W.oc, W.big, W.len, fun z' e => by cases e; exact ⟨hco, vs2, t2, z3, z4⟩⟩
    · have e1 : (hid s.heap [(B.x, foldObj w 65 B.dx B.f B.kids B.n), (B.dx, bagF w z.tk0 (.ref z.lam)), (57, tabObj #[rawInt 12, rawInt 23, .ref z.cc]), (z.cc, z.oc)]).objs.size = s.heap.objs.size := hideAll_size _ _
      have e2 := U₂.sz
      rw [e1] at e2
      exact Nat.le_trans U.sz e2
    · have at2 : ∀ e ∈ [(lam, lamObj (inClass (stAt 3) 1) lamQual c ((mg "__name__").getD .none) z.cc ctv), (c, co), (B.x, foldObj w 65 B.dx B.f B.kids B.n), (B.dx, bagF w tk0 (.ref lam)), ((57 : Addr), tabObj #[rawInt 12, rawInt 23, .ref z.cc]), (z.cc, z.oc)], h₂.get? e.1 = some e.2 ∧ g.get? e.1 = none := fun e he => ⟨(U₂.at_ e he).1, hid_fresh H.2 (U₂.at_ e he).2⟩
      rcases List.mem_cons.mp hp with rfl | hp
      · exact at2 (B.x, foldObj w 65 B.dx B.f B.kids B.n) (by k_mem)
      rcases List.mem_cons.mp hp with rfl | hp
      · exact at2 (B.dx, bagF w tk0 (.ref lam)) (by k_mem)
      rcases List.mem_cons.mp hp with rfl | hp
      · exact ⟨U₂.kg _ _ kf.1, kf.2⟩
      rcases List.mem_cons.mp hp with rfl | hp
      · exact ⟨U₂.kg _ _ kc.1, kc.2⟩
      rcases List.mem_cons.mp hp with rfl | hp
      · exact ⟨U₂.kg _ _ kcc.1, kcc.2⟩
      have hp : p ∈ [((57 : Addr), tabObj #[rawInt 12, rawInt 23, .ref z.cc]), (z.cc, z.oc), (lam, lamObj (inClass (stAt 3) 1) lamQual c ((mg "__name__").getD .none) z.cc ctv), (c, co)] := hp
      rcases mem4 hp with rfl | rfl | rfl | rfl
      · exact at2 (57, tabObj #[rawInt 12, rawInt 23, .ref z.cc]) (by k_mem)
      · exact at2 (z.cc, z.oc) (by k_mem)
      · exact at2 (lam, lamObj (inClass (stAt 3) 1) lamQual c ((mg "__name__").getD .none) z.cc ctv) (by k_mem)
      · exact at2 (c, co) (by k_mem)
end
section
local macro_rules | `(tactic| walk_at "call ref") => `(tactic| (
  (with_reducible show wpAny _ _ (PySem.call (Value.ref 170) [Value.str _ _]) _ _ _);
  (k_dflt (refine' split_ct ?X ?T ?d ?u ?x ?_)); (case x => omega); walk_at "my pre";
  intro a' t1' t2' h' tk' kp' fr' ob'; walk_at "my add4"))
local macro_rules | `(tactic| walk_at "exec For Name Subscript cons nil") => `(tactic| (k_here; (rename Fr _ _ _ _ => lF'); (with_unfolding_all refine' For_invVF lF' ?k1 ?k2 ?_; (case k1 => exact rfl); (case k2 => exact rfl))))
/-- the rows of the book are no lists -/
theorem book_seq {B : BK} (W : BKOk B) {w : World} {pm : Value} {e : Row} (he : e ∈ B.objs w pm) : ∀ vs n, e.2.data ≠ .seq vs n := by
  obtain ⟨vs, t, h1, _⟩ := W.oc
  intro us n
  rcases List.mem_cons.mp he with rfl | he
  · exact fun e => nomatch e
  rcases List.mem_cons.mp he with rfl | he
  · show (B.bag w).data ≠ _; unfold BK.bag; split <;> exact fun e => nomatch e
  rcases List.mem_cons.mp he with rfl | he
  · exact fun e => nomatch e
  rcases List.mem_cons.mp he with rfl | he
  · show B.co.data ≠ _; rw [W.co]; exact fun e => nomatch e
  rcases List.mem_cons.mp he with rfl | he
  · show B.oc.data ≠ _; rw [h1]; exact fun e => nomatch e
  revert he; unfold BK.tab
  cases hz : B.fz with
  | none => intro he; rw [List.mem_singleton.mp he]; exact fun e => nomatch e
  | some z =>
    obtain ⟨z1, vs2, t2, z2, _⟩ := W.fz z hz
    intro he
    rcases mem4 he with rfl | rfl | rfl | rfl
    · exact fun e => nomatch e
    · show z.oc.data ≠ _; rw [z2]; exact fun e => nomatch e
    · exact fun e => nomatch e
    · show z.co.data ≠ _; rw [z1]; exact fun e => nomatch e
/-- the keys with their numbers -/
inductive KA : List Kid → List (Str × Nat) → Prop
  | nil : KA [] []
  | cons (y : Str) (t : Tok) (n : Nat) (t' : Tok) {ks : List Kid} {es : List (Str × Nat)} (h : KA ks es) : KA ((y, t, .int (n : Int) t') :: ks) ((y, n) :: es)
theorem KA.len {ks : List Kid} {es : List (Str × Nat)} (h : KA ks es) : ks.length = es.length := by
  induction h with
  | nil => rfl
  | cons y t n t' _ ih => simp [ih]
theorem KA.snoc {ks : List Kid} {es : List (Str × Nat)} (h : KA ks es) (y : Str) (t : Tok) (n : Nat) (t' : Tok) : KA (ks ++ [(y, t, .int (n : Int) t')]) (es ++ [(y, n)]) := by
  induction h with
  | nil => exact .cons y t n t' .nil
  | cons y1 t1 n1 t1' _ ih => exact .cons y1 t1 n1 t1' ih
noncomputable def efind (es : List (Str × Nat)) (y : Str) : Option Nat := (es.find? fun e => decide (e.1 = y)).map (·.2)
theorem KA.find {ks : List Kid} {es : List (Str × Nat)} (h : KA ks es) (y : Str) : (efind es y = none ∧ kfind ks y = none) ∨ ∃ n t, efind es y = some n ∧ kfind ks y = some (.int (n : Int) t) := by
  induction h with
  | nil => exact .inl ⟨rfl, rfl⟩
  | cons y1 t1 n1 t1' _ ih =>
    unfold efind kfind at ih ⊢
    simp only [List.find?_cons]
    by_cases e : y1 = y
    · rw [decide_eq_true e]; exact .inr ⟨n1, t1', rfl, rfl⟩
    · rw [decide_eq_false e]; exact ih
noncomputable def numT (n : Nat) : Str := Str.ofString (toString ((n : Nat) : Int))
noncomputable def keyStep (fz : Bool) (es : List (Str × Nat)) (y : Str) : List (Str × Nat) × Nat :=
  match efind es y with
  | some n => (es, n)
  | none => if fz then (es, es.length + 1) else (es ++ [(y, es.length + 1)], es.length + 1)
noncomputable def numStep (fz : Bool) (c : List (Str × Nat) × Nat) (name : Str) : List (Str × Nat) × Nat := keyStep fz c.1 (joinStep (numT c.2) name)
/-- one look into the book, from a frame -/
theorem book_step : ∀ {w : World} {dp un : Nat} {fr : Option (List Env)} {gd : Option (List Code)} {s : Shared} {Q E : Value → Shared → Prop} {B : BK} {y : Str} {t : Tok} {pm : Value} {es : List (Str × Nat)}
   {p loose mg mb} {g : Heap} {L : Addr} {m : Str → Option Value} {rest : List Row}
   (X : (K1 w.params).In g) (T : TopRead p loose mg mb g) (F : Fr g L s.heap m) (N : News g L s.heap (B.objs w pm ++ rest)) (ap : ∀ p ∈ rest, ∀ q ∈ B.objs w pm, @Ne Nat q.1 p.1) (W : BKOk B) (hdp : dp + 25 < 1000) (hu : un + 120 < 9900) (hka : KA B.kids es)
   (hQ : ∀ kids' n' t' h' tk, KA kids' (keyStep B.fz.isSome es y).1 → kids'.length ≤ B.kids.length + 1 → Fr g L h' m → News g L h' (({ B with kids := kids', n := n' } : BK).objs w pm ++ rest) → Q (.int ((keyStep B.fz.isSome es y).2 : Nat) t') { s with heap := h', toks := tk })
   , wpAny (model PySem.Challenge.rw_il0142_01.row.prog w) (Ar dp un fr gd) (getItem (.ref B.x) (.str y t)) Q E s := by
  k_fill
  intro w dp un fr gd s Q E B y t pm es p loose mg mb g L m rest X T F N ap W hdp hu hka hQ
  have H := hid_frame F N
  have hl := hka.len
  refine book_get (X.keeps H.2) (T.keeps H.2) H.1 W hdp hu ?_ ?_ ?_
  · intro v hv tk
    rcases hka.find y with ⟨_, h⟩ | ⟨n, t', h1, h2⟩
    · rw [h] at hv; cases hv
    · rw [h2] at hv
      have e2 : keyStep B.fz.isSome es y = (es, n) := by unfold keyStep; rw [h1]
      rw [e2] at hQ
      rw [← Option.some.inj hv]
      exact hQ B.kids B.n t' s.heap tk hka (Nat.le_succ _) F N
  · intro hv hz t' h' tk U
    obtain ⟨F', N'⟩ := under_frame F N ap U
    rcases hka.find y with ⟨h, _⟩ | ⟨n, t2, _, h⟩
    · have e2 : keyStep B.fz.isSome es y = (es ++ [(y, es.length + 1)], es.length + 1) := by unfold keyStep; rw [h, hz]; rfl
      rw [e2] at hQ
      have e : (((B.kids.length : Nat) : Int) + 1) = ((es.length + 1 : Nat) : Int) := by rw [hl]; rfl
      rw [e]
      refine hQ (B.kids ++ [(y, t, .int ((es.length + 1 : Nat) : Int) t')]) (B.n + 1) t' h' tk (hka.snoc y t _ t') (by rw [List.length_append]; exact Nat.le_refl _) F' ?_
      rw [← e]; exact N'
    · rw [h] at hv; cases hv
  · intro hv hz t' h' tk k sz
    rcases hka.find y with ⟨h, _⟩ | ⟨n, t2, _, h⟩
    · have e2 : keyStep B.fz.isSome es y = (es, es.length + 1) := by unfold keyStep; rw [h, hz]; rfl
      rw [e2] at hQ
      have e : (((B.kids.length : Nat) : Int) + 1) = ((es.length + 1 : Nat) : Int) := by rw [hl]; rfl
      rw [e]
      exact hQ B.kids B.n t' h' tk hka (Nat.le_succ _) (F.keeps k) (N.keeps k)
    · rw [h] at hv; cases hv
theorem keyStep_bd {fz : Bool} {es : List (Str × Nat)} {y : Str} (hb : ∀ e ∈ es, e.2 ≤ 2000) (hl : es.length ≤ 1000) : (∀ e ∈ (keyStep fz es y).1, e.2 ≤ 2000) ∧ (keyStep fz es y).2 ≤ 2000 := by
  have hn : es.length + 1 ≤ 2000 := Nat.le_trans (Nat.succ_le_succ hl) (by decide)
  unfold keyStep
  cases hf : efind es y with
  | some n =>
    refine ⟨hb, ?_⟩
    unfold efind at hf
    obtain ⟨e, he, rfl⟩ := Option.map_eq_some_iff.mp hf
    exact hb e (List.mem_of_find?_eq_some he)
  | none =>
    cases fz with
    | true => exact ⟨hb, hn⟩
    | false =>
      refine ⟨fun e he => ?_, hn⟩
      rcases List.mem_append.mp he with he | he
      · exact hb e he
      · rw [List.mem_singleton.mp he]; exact hn
theorem keyStep_len {fz : Bool} {es : List (Str × Nat)} {y : Str} : (keyStep fz es y).1.length ≤ es.length + 1 := by
  unfold keyStep
  cases hf : efind es y with
  | some n => exact Nat.le_succ _
  | none =>
    cases fz with
    | true => exact Nat.le_succ _
    | false => rw [if_neg (by decide), List.length_append]; exact Nat.le_refl _
theorem join2_ct : ∀ {w : World} {dp un : Nat} {fr : Option (List Env)} {gd : Option (List Code)} {s : Shared} {Q E : Value → Shared → Prop} {x y : Str} {t t2 : Tok}
   {p loose mg mb}
   (X : (K1 w.params).In s.heap) (T : TopRead p loose mg mb s.heap) (hdp : dp + 8 < 1000) (hu : un + 60 < 9900) (hx : x.length + (y.length + 1 + 0) ≤ 1000000)
   (hQ : ∀ t h' tk, Keeps s.heap h' → Q (.str (joinStep x y) t) { s with heap := h', toks := tk })
   , wpAny (model PySem.Challenge.rw_il0142_01.row.prog w) (Ar dp un fr gd) (call (.ref 163) [.str x t, .str y t2]) Q E s := by
  intro w dp un fr gd s Q E x y t t2 p loose mg mb X T hdp hu hx hQ
  exact join_ct (ys := [y]) X T hdp hu (.cons y t2 .nil) hx hQ
local macro_rules | `(tactic| walk_at "call ref") => `(tactic| (
  (with_reducible show wpAny _ _ (PySem.call (Value.ref 163) [Value.str _ _, Value.str _ _]) _ _ _);
  (k_dflt (refine' join2_ct ?X ?T ?d ?u ?x ?_)); (case x => assumption); walk_at "my pre";
  intro t' h' tk' kp'; walk_at "my keep"))
local macro_rules | `(tactic| walk_at "call type:str") => `(tactic| (
  (with_reducible show wpAny _ _ (PySem.call (Value.type "str") [Value.int _ _]) _ _ _);
  (refine P.str_of_int (shown (N := 10000) (by omega) (by omega) (by decide +kernel)) ?_)))
local macro_rules | `(tactic| walk_at "subscriptTail Name Call ref str") => `(tactic| (k_here; refine stop ?_))
theorem number_ct : ∀ {w : World} {dp un : Nat} {fr : Option (List Env)} {gd : Option (List Code)} {s : Shared} {Q E : Value → Shared → Prop} {B : BK} {r : Str} {ns : List Str} {t : Tok} {pm : Value} {es : List (Str × Nat)}
   {p loose mg mb} {g : Heap}
   (X : (K1 w.params).In g) (T : TopRead p loose mg mb g) (U : Under g s.heap (B.objs w pm)) (W : BKOk B) (hdp : dp + 40 < 1000) (hu : un + 200 < 9900)
   (hr : RootOk r) (hns : NamesOk ns) (hl : (pathR r ns).length ≤ 1000) (hka : KA B.kids es) (hel : es.length + ns.length ≤ 1000) (hb : ∀ e ∈ es, e.2 ≤ 2000) (hyl : ∀ y ∈ ns, y.length ≤ 1000)
   (hQ : ∀ kids' n' t' h' tk, KA kids' (ns.foldl (numStep B.fz.isSome) (es, 0)).1 → kids'.length ≤ es.length + ns.length → Under g h' (({ B with kids := kids', n := n' } : BK).objs w pm) → Q (.int ((ns.foldl (numStep B.fz.isSome) (es, 0)).2 : Nat) t') { s with heap := h', toks := tk })
   , wpAny (model PySem.Challenge.rw_il0142_01.row.prog w) (Ar dp un fr gd) (call (.ref 205) [.ref B.x, .str (pathR r ns) t]) Q E s := by
  k_fill
  intro w dp un fr gd s Q E B r ns t pm es p loose mg mb g X T U W hdp hu hr hns hl hka hel hb hyl hQ
  refine' enterG [(Str.ofString "book", .ref B.x), (Str.ofString "place", .str (pathR r ns) t)] ?X ?T ?U ?ho ?hcd ?hroom ?hbind ?hloc ?_ ?hco ?hgen ?hk ?hcell
  case U => assumption
  walk_at "my enter"
  k_steps
  unfold Stop
  rename_i PT _ l1 _ _ _ _ _ _ _ _ _ _ _ _ F N
  refine while_st (σ := List Str × Tok × Tok × List Value × Nat) (fun c => (PT, PySem.W.listOf c.2.2.2.1.toArray c.2.2.2.2) :: B.objs w pm)
    (fun c => [(Str.ofString "tail", .str (splitS (pathR r c.1)).2 c.2.1), (Str.ofString "head", .str (splitS (pathR r c.1)).1 c.2.2.1), (Str.ofString "tails", .ref PT), (Str.ofString "book", .ref B.x)])
    (fun c => ∃ acc, StrsAre c.2.2.2.1 acc ∧ c.1 ++ acc.reverse = ns) (fun c => c.1.length)
    (ns, _, _, [], 0) F N (Sub.of_mem fun e he => .tail _ he) ⟨rfl, rfl, rfl, rfl, trivial⟩ ⟨[], .nil, by simp⟩ ?_
  rintro ⟨ms, t1, t2, vs, nn⟩ h tk u ⟨acc, ha, he⟩ F' N'
  dsimp only [chain] at F' N' ha he ⊢
  clear F N
  have hal := strsAre_len ha
  have hnl := congrArg List.length he
  simp only [List.length_append, List.length_reverse] at hnl
  have hnl2 := path_count r ns
  have hms := path_len_pre r ms acc.reverse
  rw [he] at hms
  rcases lsnoc ms with rfl | ⟨ms', n, rfl⟩
  · rw [splitS_root hr] at F'
    dsimp only at F'
    have he : acc.reverse = ns := by simpa using he
    k_steps
    unfold Stop
    rename Fr _ _ _ _ => F2
    rename News _ _ _ _ => N2
    dsimp only at N2 ⊢
    rw [krv_pick] at N2
    generalize (Heap.objs _).size + 1 = SL at N2 ⊢
    have hrv := strsAre_rev ha
    rw [he] at hrv
    have hrl := strsAre_len hrv
    refine for_list2 (σ := List Kid × Nat × Nat × Tok) (l := SL) (vs := vs.reverse) (nn := 0) (fun c => (SL, PySem.W.listOf vs.reverse.toArray 0) :: (({ B with kids := c.1, n := c.2.1 } : BK).objs w pm))
      (fun c => [(Str.ofString "number", .int (c.2.2.1 : Nat) c.2.2.2), (Str.ofString "book", .ref B.x)])
      (fun i c => KA c.1 ((ns.take i).foldl (numStep B.fz.isSome) (es, 0)).1 ∧ c.2.2.1 = ((ns.take i).foldl (numStep B.fz.isSome) (es, 0)).2 ∧ c.1.length ≤ es.length + i ∧ c.2.2.1 ≤ 2000 ∧ ∀ e ∈ ((ns.take i).foldl (numStep B.fz.isSome) (es, 0)).1, e.2 ≤ 2000)
      (B.kids, B.n, 0, _) rfl (.inl fun c => .head _) F2 N2 (Sub.of_mem fun e he => ?_) ⟨rfl, rfl, trivial⟩ ⟨hka, rfl, Nat.le_of_eq hka.len, Nat.zero_le _, hb⟩ ?_ ?_
    · rcases List.mem_cons.mp he with rfl | he
      · exact .head _
      · exact .tail _ (.tail _ he)
    · intro i v c h tk I it u hv hP F' N' hcl hne
      obtain ⟨y, ty, rfl, hy⟩ := strsAre_get hrv hv
      obtain ⟨ks, n1, num, t3⟩ := c
      obtain ⟨hk1, hk2, hk3, hk4, hk5⟩ := hP
      dsimp only [chain] at F' N' hne hk1 hk2 hk3 hk4 hk5
      have hjl : (numT num).length + (y.length + 1 + 0) ≤ 1000000 := by
        have h1 := KT.len_num (n := (num : Int)) (by omega) (by omega)
        have h2 := hyl y (List.mem_of_getElem? hy)
        have h3 : (numT num).length = (Str.ofString (toString (num : Int))).length := rfl
        omega
      clear F2 N2
      k_steps
      unfold Stop
      rename Fr _ _ _ _ => F3
      rename News _ _ _ _ => N3
      have W2 : BKOk ({ B with kids := ks, n := n1 } : BK) := ⟨W.co, W.oc, W.big, by show ks.length ≤ 1000; have := (List.getElem?_eq_some_iff.mp hy).1; omega, W.fz⟩
      have hne' := allNe_mem hne
      have N4 : News g _ _ (({ B with kids := ks, n := n1 } : BK).objs w pm ++ [(I, it), (SL, PySem.W.listOf vs.reverse.toArray 0)]) := fun e he => by
        rcases List.mem_append.mp he with he | he
        · exact N3 e (.tail _ (.tail _ he))
        · rcases mem2 he with rfl | rfl
          · exact N3 _ (.head _)
          · exact N3 _ (.tail _ (.head _))
      have ap : ∀ q ∈ [(I, it), (SL, PySem.W.listOf vs.reverse.toArray 0)], ∀ e ∈ ({ B with kids := ks, n := n1 } : BK).objs w pm, @Ne Nat e.1 q.1 := fun q hq e he => by
        rcases mem2 hq with rfl | rfl
        · exact hne' e (.tail _ he)
        · intro e1
          have h1 := (N3 e (.tail _ (.tail _ he))).1
          rw [show e.1 = SL from e1, (N3 _ (.tail _ (.head _))).1] at h1
          exact book_seq W2 he _ _ (by rw [← Option.some.inj h1])
      have Xh := X.keeps F3.keep
      have I3 : InstAt _ B.x (({ B with kids := ks, n := n1 } : BK).fold w) 65 (some (B.bag w)) := ⟨(N3 (B.x, ({ B with kids := ks, n := n1 } : BK).fold w) (.tail _ (.tail _ (.head _)))).1, rfl, rfl, (N3 (B.dx, B.bag w) (.tail _ (.tail _ (.tail _ (.head _))))).1⟩
      refine tail_fold Xh I3 (by k_is) ?_ (by with_unfolding_all rfl)
      refine book_step (B := { B with kids := ks, n := n1 }) X T F3 N4 ap W2 (by walk_at "my room") (by walk_at "my room") hk1 (fun kids' n' t' h' tk ka' kl' F4 N5 => ?_)
      have hfold : (ns.take (i + 1)).foldl (numStep B.fz.isSome) (es, 0) = keyStep B.fz.isSome ((ns.take i).foldl (numStep B.fz.isSome) (es, 0)).1 (joinStep (numT num) y) := by
        rw [take_foldl _ _ _ hy, hk2]; rfl
      have hlen : ((ns.take i).foldl (numStep B.fz.isSome) (es, 0)).1.length ≤ 1000 := by
        rw [← hk1.len]; have := (List.getElem?_eq_some_iff.mp hy).1; omega
      have hbd := keyStep_bd (fz := B.fz.isSome) (y := joinStep (numT num) y) hk5 hlen
      clear N3 N4 F3
      k_steps
      refine TEnd2.intro (kids', n', (keyStep B.fz.isSome ((ns.take i).foldl (numStep B.fz.isSome) (es, 0)).1 (joinStep (numT num) y)).2, t') (by assumption) (by assumption) (Sub.of_mem fun e he => ?_) (List.mem_append_right _ (.head _)) (.of_ne fun q hq => .inr ?_) ⟨rfl, rfl, trivial⟩ ?_
      · rcases List.mem_cons.mp he with rfl | he
        · exact List.mem_append_right _ (.tail _ (.head _))
        · exact List.mem_append_left _ he
      · rcases List.mem_cons.mp hq with rfl | hq
        · exact hne' _ (.head _)
        · rcases List.mem_cons.mp hq with rfl | hq
          · exact hne' (B.x, ({ B with kids := ks, n := n1 } : BK).fold w) (.tail _ (.head _))
          · exact hne' q (.tail _ (.tail _ hq))
      · show KA kids' _ ∧ _ = _ ∧ kids'.length ≤ _ ∧ _ ≤ 2000 ∧ _
        rw [hfold]
        exact ⟨ka', rfl, by have : kids'.length ≤ ks.length + 1 := kl'; omega, hbd.2, hbd.1⟩
    · intro c h tk u hP F' N'
      obtain ⟨ks, n1, num, t3⟩ := c
      obtain ⟨hk1, hk2, hk3, _, _⟩ := hP
      dsimp only [chain] at F' N' hk1 hk2 hk3
      rw [List.length_reverse, hal, show acc.length = ns.length by rw [← he, List.length_reverse]] at hk1 hk2 hk3
      rw [List.take_length] at hk1 hk2
      clear F2 N2
      subst hk2
      k_steps
      rename Fr _ _ _ _ => F3
      rename News _ _ _ _ => N3
      exact hQ ks n1 t3 _ _ hk1 hk3 (fr_under F3 N3 fun e he => .tail _ he)
  · have hok : NamesOk (ms' ++ [n]) := fun x hx => hns x (by rw [← he]; exact List.mem_append_left _ hx)
    rw [splitS_snoc hr hok] at F'
    dsimp only at F'
    have hms' := path_len_pre r ms' [n]
    k_steps
    refine WhlIf.yes (by have := (hok n (by simp)).ne; rw [bne_iff]; intro e; rw [e] at this; exact this (by decide +kernel)) ?_
    k_steps
    simp only [List.push_toArray] at *
    refine WEnd.intro (ms', _, _, _, _) (by assumption) (by assumption) (Sub.of_mem fun e he => .tail _ he) ⟨rfl, rfl, rfl, rfl, trivial⟩ ⟨acc ++ [n], strsAre_snoc ha _ _, ?_⟩ ?_
    · rw [← he]; simp
    · simp
end
section
set_option maxHeartbeats 400000
theorem numT_C (n : Nat) : C (numT n) = (Nat.toDigits 10 n).map Char.toNat := KIN.signs_num n
theorem numT_dig (n : Nat) : ∀ c ∈ C (numT n), 48 ≤ c ∧ c ≤ 57 := fun c hc => by
  rw [numT_C] at hc
  obtain ⟨ch, hch, rfl⟩ := List.mem_map.mp hc
  exact digit_range (Nat.isDigit_of_mem_toDigits (by decide) (by decide) hch)
theorem numT_free (n : Nat) : 47 ∉ C (numT n) := fun h => absurd (numT_dig n 47 h).1 (by decide)
theorem numT_ne (n : Nat) : C (numT n) ≠ [] := fun e => by
  rw [numT_C] at e
  have h := toDigits_len_ge 10 n
  rw [List.map_eq_nil_iff.mp e] at h
  exact absurd h (by decide)
theorem numT_inj {a b : Nat} (e : numT a = numT b) : a = b := by
  have h : ∀ n, PySem.NumText.digitsVal (C (numT n)) = n := fun n => by rw [numT_C]; exact KIN.val_back n
  rw [← h a, ← h b, e]
theorem key_C (n : Nat) {nm : Str} (h : NameOk nm) : C (joinStep (numT n) nm) = C (numT n) ++ 47 :: C nm := by
  have h1 : Txt.startswith nm sl = false := by
    cases e : Txt.startswith nm sl with
    | false => rfl
    | true => exact absurd (List.mem_of_mem_head? ((starts_iff nm).mp e)) h.free
  have h2 : ((numT n).length : Int) ≠ 0 := by
    have := numT_ne n
    intro e
    exact this (List.eq_nil_of_length_eq_zero (by rw [C_len]; exact Int.ofNat.inj e))
  have h3 : Txt.endswith (numT n) sl = false := by
    cases e : Txt.endswith (numT n) sl with
    | false => rfl
    | true => exact absurd (List.mem_of_getLast? ((ends_iff (numT n)).mp e)) (numT_free n)
  rw [joinStep_mid h1 h2 h3, C_app, C_app, show C (Str.ofString "/") = [47] from C_sl]
  rfl
theorem key_split (n : Nat) {nm : Str} (h : NameOk nm) : splitS (joinStep (numT n) nm) = (numT n, nm) := by
  rw [splitS_of (key_C n h) h.free, if_neg]
  · refine Prod.ext (C_inj ?_) (mk_C nm)
    dsimp only
    exact rstrip_at (k := 1) (by rw [C_mk]; rfl) (fun e => numT_free n (List.mem_of_getLast? e))
  · intro e
    cases hc : C (numT n) with
    | nil => exact numT_ne n hc
    | cons a r =>
      rw [hc] at e
      have : a = 47 := by simpa [List.replicate_succ] using congrArg List.head? e
      exact numT_free n (by rw [hc, this]; exact .head _)
theorem key_inj {a b : Nat} {x y : Str} (hx : NameOk x) (hy : NameOk y) (e : joinStep (numT a) x = joinStep (numT b) y) : a = b ∧ x = y := by
  have h1 := key_split a hx
  rw [e, key_split b hy] at h1
  exact ⟨numT_inj (congrArg Prod.fst h1).symm, (congrArg Prod.snd h1).symm⟩
/-- from a number back to the names -/
inductive Back (ys : List Str) : Nat → List Str → Prop
  | zero : Back ys 0 []
  | step {n m : Nat} {nm : Str} {p : List Str} (h0 : 0 < n) (hy : ys[n - 1]? = some (joinStep (numT m) nm)) (ok : NameOk nm) (hm : m < n) (h : Back ys m p) : Back ys n (p ++ [nm])
end
section
local macro_rules | `(tactic| walk_at "call ref") => `(tactic| (
  (with_reducible show wpAny _ _ (PySem.call (Value.ref 170) [Value.str _ _]) _ _ _);
  (k_dflt (refine' split_ct ?X ?T ?d ?u ?x ?_)); (case x => omega); walk_at "my pre";
  intro a' t1' t2' h' tk' kp' fr' ob'; walk_at "my add4"))
local macro_rules | `(tactic| walk_at "subscriptTail") => `(tactic| (
  (with_reducible show wpAny _ _ (subscriptTail _ _ (Value.ref _) (Value.int _ _)) _ _ _);
  k_here; refine stop ?_))
local macro_rules | `(tactic| walk_at "call type:int") => `(tactic| (k_here; refine stop ?_))
theorem back_ct : ∀ {w : World} {dp un : Nat} {fr : Option (List Env)} {gd : Option (List Code)} {s : Shared} {Q E : Value → Shared → Prop} {ka : Addr} {kvs : List Value} {kn : Nat} {ys p : List Str} {n : Nat} {t : Tok}
   {pr loose mg mb}
   (X : (K1 w.params).In s.heap) (T : TopRead pr loose mg mb s.heap) (hdp : dp + 12 < 1000) (hu : un + 80 < 9900)
   (hka : s.heap.get? ka = some (listOf kvs.toArray kn)) (hks : StrsAre kvs ys) (hyl : ∀ y ∈ ys, y.length ≤ 10000) (hn : n ≤ 1000) (hB : Back ys n p)
   (hQ : ∀ a vs nn h' tk, Keeps s.heap h' → s.heap.get? a = none → h'.get? a = some (listOf (vs : List Value).toArray nn) → StrsAre vs p → Q (.ref a) { s with heap := h', toks := tk })
   , wpAny (model PySem.Challenge.rw_il0142_01.row.prog w) (Ar dp un fr gd) (call (.ref 212) [.ref ka, .int (n : Nat) t]) Q E s := by
  k_fill
  intro w dp un fr gd s Q E ka kvs kn ys p n t pr loose mg mb X T hdp hu hka hks hyl hn hB hQ
  refine' enter [(Str.ofString "keys", .ref ka), (Str.ofString "number", .int n t)] ?X ?T ?ho ?hcd ?hroom ?hbind ?hloc ?_ ?hco ?hgen ?hk ?hcell
  walk_at "my enter"
  k_steps
  unfold Stop
  rename_i TL _ _ _ F N
  refine while_st (σ := Nat × Tok × List Value × Nat) (fun c => [(TL, PySem.W.listOf c.2.2.1.toArray c.2.2.2)])
    (fun c => [(Str.ofString "number", .int (c.1 : Nat) c.2.1), (Str.ofString "keys", .ref ka), (Str.ofString "tails", .ref TL)])
    (fun c => ∃ q acc, Back ys c.1 q ∧ StrsAre c.2.2.1 acc ∧ q ++ acc.reverse = p ∧ c.1 ≤ 1000 ∧ acc.length + c.1 ≤ 1000) (fun c => c.1)
    (n, _, [], 0) F N ⟨.head _, trivial⟩ ⟨rfl, rfl, rfl, trivial⟩ ⟨p, [], hB, .nil, by simp, hn, by simpa using hn⟩ ?_
  rintro ⟨m, t1, vs, nn⟩ h tk u ⟨q, acc, hb, ha, he, hm1, hm2⟩ F' N'
  dsimp only [chain] at F' N' ha he hb hm1 hm2 ⊢
  have hal := strsAre_len ha
  clear F N
  cases hb with
  | zero =>
    have he : acc.reverse = p := by simpa using he
    k_steps
    (rename News _ _ _ _ => N2)
    rw [krv_pick] at N2
    have hrv := strsAre_rev ha
    rw [he] at hrv
    exact hQ _ vs.reverse 0 _ _ (Fr.keep (by assumption)) (News.fresh N2 (.head _)) (News.get N2 (.head _)) hrv
  | @step _ m2 nm q0 h0 hy ok hm hb =>
    k_steps
    have hml : m - 1 < ys.length := (List.getElem?_eq_some_iff.mp hy).1
    have hkey : ys.getD ((m : Int) - 1).toNat Str.empty = joinStep (numT m2) nm := by
      rw [show ((m : Int) - 1).toNat = m - 1 by omega, List.getD_eq_getElem?_getD, hy]; rfl
    have hkl := hyl _ (List.mem_of_getElem? hy)
    refine WhlIf.yes (by rw [bne_iff_ne]; omega) ?_
    k_steps
    unfold Stop
    rename Fr _ _ _ _ => F2
    refine KTb.item_list (ws := ys) (vs := kvs) (l := ka) ⟨_, F2.keep _ _ hka, rfl, kn, rfl⟩ hks (by omega) (by omega) (by omega) (fun t' _ => ?_)
    rw [hkey]
    k_steps
    unfold Stop
    rename Fr _ _ _ _ => F3
    rename News _ _ _ _ => N3
    rw [key_split m2 ok] at F3 N3 ⊢
    dsimp only at F3 N3 ⊢
    refine KIN.call_num (n := (m2 : Int)) (by omega) (by omega) ?_
    k_steps
    simp only [List.push_toArray] at *
    refine WEnd.intro (m2, _, _, _) (by assumption) (by assumption) ⟨by k_mem, trivial⟩ ⟨rfl, rfl, rfl, trivial⟩ ⟨q0, acc ++ [nm], hb, strsAre_snoc ha _ _, by rw [← he]; simp, by omega, by simp only [List.length_append, List.length_cons, List.length_nil]; omega⟩ ?_
    exact hm
end
section
local macro_rules | `(tactic| walk_at "compareOp Eq ref ref") => `(tactic| (k_here; refine stop ?_))
local macro_rules | `(tactic| walk_at "compareOp In ref ref") => `(tactic| (k_here; refine stop ?_))
local macro_rules | `(tactic| walk_at "call builtin:list.index") => `(tactic| (k_here; refine stop ?_))
local macro_rules | `(tactic| walk_at "call builtin:len") => `(tactic| (k_here; refine stop ?_))
local macro_rules | `(tactic| walk_at "getMethod ref") => `(tactic| (k_here; refine stop ?_))

theorem kqdPs_map : ∀ ds : List Dat, kqdPs ds = ds.map kqdP
  | [] => rfl
  | d :: ds => by rw [kqdPs, kqdPs_map ds]; rfl
section
variable {prog : Program} {w : World} {A : Around} {E : Value → Shared → Prop} {s : Shared} {D L : Addr} {g : Heap} {news n₁ n₂ : List Row}
/-- where a value stands in a list, first -/
theorem dat_index {xs : List Value} {n j : Nat} {x : Value} {ds : List Dat} {d : Dat} {Q : Value → Shared → Prop} (N : News g L s.heap news) (hm : (D, listOf xs.toArray n) ∈ news) (Da : DatAll n₁ xs ds) (sa : ∀ p ∈ n₁, p ∈ news)
    (Dx : DatIn n₂ x d) (sx : ∀ p ∈ n₂, p ∈ news) (ha : ∀ d ∈ ds, kqdOk 8 d = true) (hd : kqdOk 8 d = true) (hu : A.units + 64 < cLine) (hl : ds.length ≤ 100000)
    (hj : ds[j]? = some d) (hno : ∀ m, m < j → ds[m]? ≠ some d) (h : Q (.int j s.toks) { s with toks := s.toks + 1 }) : wpAny (model prog w) A (call (.builtin "list.index") [.ref D, x]) Q E s := by
  obtain ⟨as, ra⟩ := kqd_all N 8 (Da.mono sa) ha
  obtain ⟨bs, rx⟩ := kqd_in N 8 (Dx.mono sx) hd
  have lay := kqd_layL ha
  have ld := kqd_lay 8 d hd
  have hmap := SeqAt.readsAll_map _ _ _ lay.1 ra
  have hat : ∀ (i : Nat) (hi : i < xs.length), ∃ e, ds[i]? = some e ∧ SeqAt.readOf s.heap xs[i] = kqdP e := fun i hi => by
    have h1 : (xs.map (SeqAt.readOf s.heap))[i]? = (kqdPs ds)[i]? := by rw [hmap]
    rw [kqdPs_map, List.getElem?_map, List.getElem?_map, List.getElem?_eq_getElem hi] at h1
    cases he : ds[i]? with
    | none => rw [he] at h1; cases h1
    | some e => rw [he] at h1; exact ⟨e, rfl, Option.some.inj h1⟩
  have hlen : xs.length = ds.length := by have := congrArg List.length hmap; rwa [List.length_map, kqdPs_map, List.length_map] at this
  have hjl : j < ds.length := (List.getElem?_eq_some_iff.mp hj).1
  refine call_meets PySem.F.slot_list_index ⟨_, (N _ hm).1, rfl⟩ PySem.F.entry_list_index (PySem.F.args_list_index_2 _ _)
    (SeqAt.list_indexAt D xs.toArray n none #[] x (fun y => PyData.eqv (SeqAt.readOf s.heap y) (kqdP d)) j (by rw [List.size_toArray]; omega) (by omega) ?_ ?_) ⟨(N _ hm).1, SeqAt.items_eqAt (by simpa using ra) rx lay.1 ld.1 ?_, h⟩
  · obtain ⟨e, h1, h2⟩ := hat j (by omega)
    rw [hj] at h1
    simp only [List.getElem_toArray]
    rw [h2, ← Option.some.inj h1]
    exact (kqd_eqv 8 d d 8 hd hd).mpr rfl
  · intro m hm2 hmj
    rw [List.size_toArray] at hm2
    obtain ⟨e, h1, h2⟩ := hat m hm2
    simp only [List.getElem_toArray]
    rw [h2]
    have he : kqdOk 8 e = true := ha e (List.mem_of_getElem? h1)
    refine Bool.eq_false_iff.mpr fun z => hno m hmj ?_
    rw [h1, (kqd_eqv 8 e d 8 he hd).mp z]
  · have := Nat.min_le_right (PyData.depthAll (kqdPs ds)) (kqdP d).depth
    have := ld.2
    omega
end
section
variable {prog : Program} {w : World} {A : Around} {E : Value → Shared → Prop} {s : Shared} {D L : Addr} {g : Heap} {news n₁ n₂ : List Row}
open Classical in
theorem dat_isIn {xs : List Value} {n : Nat} {x : Value} {ds : List Dat} {d : Dat} {Q : Value → Shared → Prop} {b : Bool} (N : News g L s.heap news) (hm : (D, listOf xs.toArray n) ∈ news) (Da : DatAll n₁ xs ds) (sa : ∀ p ∈ n₁, p ∈ news)
    (Dx : DatIn n₂ x d) (sx : ∀ p ∈ n₂, p ∈ news) (ha : ∀ d ∈ ds, kqdOk 8 d = true) (hd : kqdOk 8 d = true) (hu : A.units + 64 < cLine) (hb : b = true ↔ d ∈ ds) (h : Q (.bool b) s) : wpAny (model prog w) A (compareOp .In x (.ref D)) Q E s := by
  refine kqd_isIn N hm rfl rfl Da sa Dx sx ha hd hu ?_
  have e : decide (d ∈ ds) = b := by
    by_cases q : d ∈ ds
    · rw [decide_eq_true q, hb.mpr q]
    · rw [decide_eq_false q]; exact (Bool.eq_false_iff.mpr fun z => q (hb.mp z)).symm
  rw [e]; exact h
open Classical in
theorem dat_notIn {xs : List Value} {n : Nat} {x : Value} {ds : List Dat} {d : Dat} {Q : Value → Shared → Prop} {b : Bool} (N : News g L s.heap news) (hm : (D, listOf xs.toArray n) ∈ news) (Da : DatAll n₁ xs ds) (sa : ∀ p ∈ n₁, p ∈ news)
    (Dx : DatIn n₂ x d) (sx : ∀ p ∈ n₂, p ∈ news) (ha : ∀ d ∈ ds, kqdOk 8 d = true) (hd : kqdOk 8 d = true) (hu : A.units + 64 < cLine) (hb : b = true ↔ d ∉ ds) (h : Q (.bool b) s) : wpAny (model prog w) A (compareOp .NotIn x (.ref D)) Q E s := by
  refine kqd_notIn N hm rfl rfl Da sa Dx sx ha hd hu ?_
  have e : (!decide (d ∈ ds)) = b := by
    by_cases q : d ∈ ds
    · rw [decide_eq_true q]; exact (Bool.eq_false_iff.mpr fun z => (hb.mp z) q).symm
    · rw [decide_eq_false q, hb.mpr q]; rfl
  rw [e]; exact h
end
noncomputable def idx : List (List Str) → List Str → Nat
  | [], _ => 0
  | f :: r, ns => if f = ns then 0 else idx r ns + 1
theorem idx_le : ∀ (fs : List (List Str)) (ns : List Str), idx fs ns ≤ fs.length
  | [], _ => Nat.le_refl _
  | f :: r, ns => by
    unfold idx
    split
    · exact Nat.zero_le _
    · exact Nat.succ_le_succ (idx_le r ns)
theorem idx_at : ∀ {fs : List (List Str)} {ns : List Str}, ns ∈ fs → fs[idx fs ns]? = some ns ∧ ∀ m, m < idx fs ns → fs[m]? ≠ some ns
  | f :: r, ns, h => by
    unfold idx
    by_cases e : f = ns
    · rw [if_pos e]; exact ⟨by rw [e]; rfl, fun m hm => absurd hm (Nat.not_lt_zero _)⟩
    · rw [if_neg e]
      have h2 : ns ∈ r := (List.mem_cons.mp h).resolve_left (fun q => e q.symm)
      obtain ⟨h3, h4⟩ := idx_at h2
      refine ⟨by rw [List.getElem?_cons_succ]; exact h3, fun m hm => ?_⟩
      cases m with
      | zero => exact fun q => e (Option.some.inj q)
      | succ m => rw [List.getElem?_cons_succ]; exact h4 m (Nat.lt_of_succ_lt_succ hm)
theorem idx_not : ∀ {fs : List (List Str)} {ns : List Str}, ns ∉ fs → idx fs ns = fs.length
  | [], _, _ => rfl
  | f :: r, ns, h => by
    unfold idx
    rw [if_neg (fun e => h (by rw [e]; exact .head _)), idx_not (fun e => h (.tail _ e))]; rfl
noncomputable def dueN (fs : List (List Str)) (ns : List Str) : Nat := if ns = [] then 0 else idx fs ns + 1
noncomputable abbrev pD (p : List Str) : Dat := .list (p.map .str)
theorem str_inj {a b : List Str} (h : a.map Dat.str = b.map Dat.str) : a = b := by
  refine (List.map_inj_right (f := Dat.str) ?_).mp h
  intro x y e; exact Dat.str.inj e
theorem pD_inj {a b : List Str} (h : pD a = pD b) : a = b := str_inj (Dat.list.inj h)
theorem datAll_ss {news : List (Addr × Obj)} : ∀ {us : List Value} {ys : List Str}, StrsAre us ys → DatAll news us (ys.map .str)
  | _, _, .nil => .nil
  | _, _, .cons y t h => .cons (.str _ _) (datAll_ss h)
section
variable {prog : Program} {w : World} {A : Around} {E : Value → Shared → Prop} {s : Shared} {D l L : Addr} {g : Heap} {m : Str → Option Value} {news : List (Addr × Obj)}
theorem eq_nil {us : List Value} {ys : List Str} {n : Nat} {Q : Value → Shared → Prop} (N : News g L s.heap news) (hm : (D, listOf us.toArray n) ∈ news) (hl : (l, listOf #[] 0) ∈ news) (hv : StrsAre us ys) (hso : ∀ y ∈ ys, PyData.strOk y = true) (hu : A.units + 64 < cLine)
    (h : Q (.bool (decide (ys = []))) s) : wpAny (model prog w) A (compareOp .Eq (.ref D) (.ref l)) Q E s := by
  refine kqd_eq (xs := us) (ys := []) (ds := ys.map .str) (es := []) (n₁ := []) (n₂ := []) N hm rfl rfl (datAll_ss hv) (by simp) hl rfl rfl .nil (by simp) ?_ (by simp) hu ?_
  · intro d hd
    obtain ⟨y, hy, rfl⟩ := List.mem_map.mp hd
    exact hso y hy
  · have e : decide (ys.map Dat.str = []) = decide (ys = []) := by simp
    rw [e]; exact h
end
theorem datAll_len {R : List Row} : ∀ {us : List Value} {ds : List Dat}, DatAll R us ds → us.length = ds.length
  | _, _, .nil => rfl
  | _, _, .cons _ h => by rw [List.length_cons, List.length_cons, datAll_len h]
theorem due_ct1 : ∀ {w : World} {dp un : Nat} {fr : Option (List Env)} {gd : Option (List Code)} {s : Shared} {Q E : Value → Shared → Prop} {fa na : Addr} {fvs nvs : List Value} {fn nn : Nat} {fs : List (List Str)} {ns : List Str} {R : List Row}
   {p loose mg mb} {g : Heap}
   (X : (K1 w.params).In g) (T : TopRead p loose mg mb g) (U : Under g s.heap R) (hdp : dp + 8 < 1000) (hu : un + 200 < 9900)
   (hfa : (fa, listOf fvs.toArray fn) ∈ R) (hna : (na, listOf nvs.toArray nn) ∈ R) (hf : DatAll R fvs (fs.map pD)) (hn : StrsAre nvs ns) (hfs : ∀ q ∈ fs, ∀ y ∈ q, PyData.strOk y = true) (hso : ∀ y ∈ ns, PyData.strOk y = true) (hfl : fs.length ≤ 1000) (hnl : ns.length ≤ 1000)
   (hQ : ∀ t h' tk, Under g h' R → Q (.int (dueN fs ns : Nat) t) { s with heap := h', toks := tk })
   , wpAny (model PySem.Challenge.rw_il0142_01.row.prog w) (Ar dp un fr gd) (call (.ref 226) [.ref fa, .ref na]) Q E s := by
  k_fill
  intro w dp un fr gd s Q E fa na fvs nvs fn nn fs ns R p loose mg mb g X T U hdp hu hfa hna hf hn hfs hso hfl hnl hQ
  refine' enterG [(Str.ofString "fronts", .ref fa), (Str.ofString "names", .ref na)] ?X ?T ?U ?ho ?hcd ?hroom ?hbind ?hloc ?_ ?hco ?hgen ?hk ?hcell
  case U => assumption
  walk_at "my enter"
  k_steps
  unfold Stop
  rename Fr _ _ _ _ => F
  rename News _ _ _ _ => N
  have hks : ∀ d ∈ fs.map pD, kqdOk 8 d = true := fun d hd => by
    obtain ⟨q, hq, rfl⟩ := List.mem_map.mp hd
    show (q.map Dat.str).all (kqdOk 7) = true
    rw [List.all_eq_true]
    intro e he
    obtain ⟨y, hy, rfl⟩ := List.mem_map.mp he
    exact hfs q hq y hy
  have hkn : kqdOk 8 (pD ns) = true := by
    show (ns.map Dat.str).all (kqdOk 7) = true
    rw [List.all_eq_true]
    intro e he
    obtain ⟨y, hy, rfl⟩ := List.mem_map.mp he
    exact hso y hy
  have hnR : DatIn R (.ref na) (pD ns) := .list hna (datAll_ss hn)
  refine eq_nil N (.tail _ hna) (.head _) hn hso (show _ < 9900 by walk_at "my room") ?_
  by_cases h0 : ns = []
  · rw [decide_eq_true h0]
    have e : dueN fs ns = 0 := by unfold dueN; rw [if_pos h0]
    rw [e] at hQ
    k_steps
    exact hQ _ _ _ (fr_under F N fun e he => .tail _ he)
  · rw [decide_eq_false h0]
    k_steps
    unfold Stop
    have hE : dueN fs ns = idx fs ns + 1 := by unfold dueN; rw [if_neg h0]
    rw [hE] at hQ
    have hi1 := idx_le fs ns
    refine dat_isIn (b := decide (ns ∈ fs)) N (.tail _ hfa) hf (fun p hp => .tail _ hp) hnR (fun p hp => .tail _ hp) hks hkn (show _ < 9900 by walk_at "my room") ⟨fun e => List.mem_map_of_mem (of_decide_eq_true e), fun e => by obtain ⟨q, hq, e⟩ := List.mem_map.mp e; exact decide_eq_true (pD_inj e ▸ hq)⟩ ?_
    by_cases hm : ns ∈ fs
    · obtain ⟨hi2, hi3⟩ := idx_at hm
      rw [decide_eq_true hm]
      k_steps
      unfold Stop
      refine kf_method N (.tail _ hfa) PySem.F.slot_list_index PySem.F.type_list_index ?_
      k_steps
      unfold Stop
      refine dat_index N (.tail _ hfa) hf (fun p hp => .tail _ hp) hnR (fun p hp => .tail _ hp) hks hkn (show _ < 9900 by walk_at "my room") (by rw [List.length_map]; omega) (j := idx fs ns) (by rw [List.getElem?_map, hi2]; rfl) (fun m hml e => ?_) ?_
      · rw [List.getElem?_map] at e
        cases hg : fs[m]? with
        | none => rw [hg] at e; cases e
        | some q => rw [hg] at e; exact hi3 m hml (by rw [hg, pD_inj (Option.some.inj e)])
      · k_steps
        exact hQ _ _ _ (fr_under F N fun e he => .tail _ he)
    · rw [decide_eq_false hm]
      rw [idx_not hm] at hQ hi1
      k_steps
      unfold Stop
      have hfl2 : fvs.length = fs.length := by
        have key : ∀ {us : List Value} {ds : List Dat}, DatAll R us ds → us.length = ds.length := fun h => datAll_len h
        rw [key hf, List.length_map]
      refine len_list ⟨_, (N _ (.tail _ hfa)).1, rfl, fn, rfl⟩ (by rw [List.size_toArray]; omega) ?_
      rw [List.size_toArray, hfl2]
      k_steps
      exact hQ _ _ _ (fr_under F N fun e he => .tail _ he)
end
section
set_option maxHeartbeats 400000
theorem idx_app {fs : List (List Str)} {ns : List Str} (h : ns ∈ fs) (l : List (List Str)) : idx (fs ++ l) ns = idx fs ns := by
  induction fs with
  | nil => exact absurd h (by simp)
  | cons f r ih =>
    show (if f = ns then 0 else idx (r ++ l) ns + 1) = (if f = ns then 0 else idx r ns + 1)
    by_cases e : f = ns
    · rw [if_pos e, if_pos e]
    · rw [if_neg e, if_neg e, ih ((List.mem_cons.mp h).resolve_left fun q => e q.symm)]
/-- a place met, or the top -/
noncomputable def Met (fs : List (List Str)) (q : List Str) : Prop := q = [] ∨ q ∈ fs
theorem due_app {fs : List (List Str)} {q : List Str} (h : Met fs q) (l : List (List Str)) : dueN (fs ++ l) q = dueN fs q := by
  unfold dueN
  rcases h with h | h
  · rw [if_pos h, if_pos h]
  · rw [idx_app h]
theorem idx_of {fs : List (List Str)} (nd : fs.Nodup) {k : Nat} {p : List Str} (h : fs[k]? = some p) : idx fs p = k := by
  obtain ⟨hk, hp⟩ := List.getElem?_eq_some_iff.mp h
  have hm : p ∈ fs := List.mem_of_getElem? h
  obtain ⟨h1, _⟩ := idx_at hm
  obtain ⟨hi, he⟩ := List.getElem?_eq_some_iff.mp h1
  rcases Nat.lt_trichotomy (idx fs p) k with l | e | l
  · exact absurd (he.trans hp.symm) (List.pairwise_iff_getElem.mp nd _ _ hi hk l)
  · exact e
  · exact absurd (hp.trans he.symm) (List.pairwise_iff_getElem.mp nd _ _ hk hi l)
structure EsOk (es : List (Str × Nat)) (fs : List (List Str)) : Prop where
  len : es.length = fs.length
  at_ : ∀ k p, fs[k]? = some p → ∃ q n, p = q ++ [n] ∧ es[k]? = some (joinStep (numT (dueN fs q)) n, k + 1) ∧ dueN fs q ≤ k ∧ Met fs q
  ok : ∀ p ∈ fs, NamesOk p
  nd : fs.Nodup
theorem due_inj {fs : List (List Str)} (nd : fs.Nodup) (hne : ∀ p ∈ fs, p ≠ []) {a b : List Str} (ha : Met fs a) (hb : Met fs b) (e : dueN fs a = dueN fs b) : a = b := by
  have key : ∀ {q : List Str}, q ∈ fs → q ≠ [] := fun h => hne _ h
  unfold dueN at e
  rcases ha with rfl | ha <;> rcases hb with rfl | hb
  · rfl
  · rw [if_pos rfl, if_neg (key hb)] at e; cases e
  · rw [if_neg (key ha), if_pos rfl] at e; cases e
  · rw [if_neg (key ha), if_neg (key hb)] at e
    have e := Nat.succ.inj e
    have h1 := (idx_at ha).1
    have h2 := (idx_at hb).1
    rw [e, h2] at h1
    exact (Option.some.inj h1).symm
theorem EsOk.ne {es : List (Str × Nat)} {fs : List (List Str)} (H : EsOk es fs) : ∀ p ∈ fs, p ≠ [] := fun p hp e => by
  obtain ⟨k, hk⟩ := List.mem_iff_getElem?.mp hp
  obtain ⟨q, n, e2, _⟩ := H.at_ k p hk
  rw [e] at e2
  have := congrArg List.length e2
  simp at this
/-- what stands at a place of the list of keys, by its key -/
theorem EsOk.mem {es : List (Str × Nat)} {fs : List (List Str)} (H : EsOk es fs) {e : Str × Nat} (he : e ∈ es) : ∃ q n, q ++ [n] ∈ fs ∧ e = (joinStep (numT (dueN fs q)) n, dueN fs (q ++ [n])) ∧ Met fs q ∧ NameOk n ∧ dueN fs q < e.2 ∧ e.2 ≤ fs.length := by
  obtain ⟨k, hk⟩ := List.mem_iff_getElem?.mp he
  have hlt : k < fs.length := by rw [← H.len]; exact (List.getElem?_eq_some_iff.mp hk).1
  have hp : fs[k]? = some fs[k] := List.getElem?_eq_getElem hlt
  obtain ⟨q, n, e1, e2, e3, e4⟩ := H.at_ k _ hp
  have hm := List.mem_of_getElem? hp
  rw [e2] at hk
  have hd : dueN fs (q ++ [n]) = k + 1 := by
    unfold dueN
    rw [if_neg (by simp), ← e1, idx_of H.nd hp]
  refine ⟨q, n, by rw [← e1]; exact hm, ?_, e4, H.ok _ hm n (by rw [e1]; simp), ?_, ?_⟩
  · rw [hd]; exact (Option.some.inj hk).symm
  · rw [← Option.some.inj hk]; exact Nat.lt_succ_of_le e3
  · rw [← Option.some.inj hk]; exact hlt
theorem efind_some {es : List (Str × Nat)} {y : Str} {v : Nat} (h : efind es y = some v) : (y, v) ∈ es := by
  unfold efind at h
  obtain ⟨e, he, rfl⟩ := Option.map_eq_some_iff.mp h
  have h1 := List.find?_some he
  have h2 := List.mem_of_find?_eq_some he
  rw [← of_decide_eq_true h1]
  exact h2
theorem efind_none {es : List (Str × Nat)} {y : Str} (h : efind es y = none) : ∀ v, (y, v) ∉ es := fun v hm => by
  unfold efind at h
  rw [Option.map_eq_none_iff, List.find?_eq_none] at h
  exact h _ hm (by simp)
theorem EsOk.find {es : List (Str × Nat)} {fs : List (List Str)} (H : EsOk es fs) {q : List Str} {n : Str} (hq : Met fs q) (hn : NameOk n) :
    efind es (joinStep (numT (dueN fs q)) n) = if q ++ [n] ∈ fs then some (dueN fs (q ++ [n])) else none := by
  cases h : efind es (joinStep (numT (dueN fs q)) n) with
  | some v =>
    obtain ⟨q2, n2, h1, h2, h3, h4, _⟩ := H.mem (efind_some h)
    obtain ⟨e1, e2⟩ := key_inj hn h4 (congrArg Prod.fst h2)
    have e3 := due_inj H.nd H.ne hq h3 e1
    subst e2; subst e3
    rw [if_pos h1, show v = dueN fs (q ++ [n]) from congrArg Prod.snd h2]
  | none =>
    rw [if_neg]
    intro hm
    obtain ⟨k, hk⟩ := List.mem_iff_getElem?.mp hm
    obtain ⟨q2, n2, e1, e2, _, _⟩ := H.at_ k _ hk
    obtain ⟨e3, e4⟩ := List.append_inj' e1 rfl
    have e5 : n = n2 := by simpa using e4
    subst e5; subst e3
    exact efind_none h _ (List.mem_of_getElem? e2)
theorem EsOk.lost {es : List (Str × Nat)} {fs : List (List Str)} (H : EsOk es fs) {n : Str} (hn : NameOk n) : efind es (joinStep (numT (fs.length + 1)) n) = none := by
  cases h : efind es (joinStep (numT (fs.length + 1)) n) with
  | none => rfl
  | some v =>
    obtain ⟨q2, n2, h1, h2, h3, h4, h5, h6⟩ := H.mem (efind_some h)
    obtain ⟨e1, e2⟩ := key_inj hn h4 (congrArg Prod.fst h2)
    dsimp only at h5 h6
    omega
end
section
set_option maxHeartbeats 400000
theorem idx_snoc {fs : List (List Str)} {p : List Str} (h : p ∉ fs) : idx (fs ++ [p]) p = fs.length := by
  induction fs with
  | nil => show (if p = p then 0 else _) = _; rw [if_pos rfl]; rfl
  | cons f r ih =>
    show (if f = p then 0 else idx (r ++ [p]) p + 1) = _
    rw [if_neg (fun e => h (by rw [e]; exact .head _)), ih (fun e => h (.tail _ e))]; rfl
theorem due_new {fs : List (List Str)} {q : List Str} {n : Str} (h : q ++ [n] ∉ fs) : dueN (fs ++ [q ++ [n]]) (q ++ [n]) = fs.length + 1 := by
  unfold dueN; rw [if_neg (by simp), idx_snoc h]
theorem due_le {fs : List (List Str)} (q : List Str) : dueN fs q ≤ fs.length + 1 := by
  unfold dueN
  split
  · exact Nat.zero_le _
  · exact Nat.succ_le_succ (idx_le fs q)
theorem due_met {fs : List (List Str)} {q : List Str} (h : Met fs q) : dueN fs q ≤ fs.length := by
  unfold dueN
  rcases h with h | h
  · rw [if_pos h]; exact Nat.zero_le _
  · split
    · exact Nat.zero_le _
    · exact (List.getElem?_eq_some_iff.mp (idx_at h).1).1
theorem Met.app {fs : List (List Str)} {q : List Str} (h : Met fs q) (l : List (List Str)) : Met (fs ++ l) q := h.imp id (List.mem_append_left _)
theorem EsOk.snoc {es : List (Str × Nat)} {fs : List (List Str)} (H : EsOk es fs) {q : List Str} {n : Str} (hq : Met fs q) (ok : NamesOk (q ++ [n])) (hn : q ++ [n] ∉ fs) :
    EsOk (es ++ [(joinStep (numT (dueN fs q)) n, es.length + 1)]) (fs ++ [q ++ [n]]) := by
  refine ⟨by rw [List.length_append, List.length_append, H.len]; rfl, fun k p hp => ?_, fun p hp => ?_, ?_⟩
  · rcases Nat.lt_or_ge k fs.length with hk | hk
    · rw [List.getElem?_append_left hk] at hp
      obtain ⟨q2, n2, e1, e2, e3, e4⟩ := H.at_ k p hp
      exact ⟨q2, n2, e1, by rw [List.getElem?_append_left (by rw [H.len]; exact hk), due_app e4]; exact e2, by rw [due_app e4]; exact e3, e4.app _⟩
    · have hk2 : k < (fs ++ [q ++ [n]]).length := (List.getElem?_eq_some_iff.mp hp).1
      rw [List.length_append] at hk2
      have hkl : k = fs.length := Nat.le_antisymm (Nat.le_of_lt_succ hk2) hk
      subst hkl
      rw [List.getElem?_append_right (Nat.le_refl _), Nat.sub_self] at hp
      have hp := (Option.some.inj hp).symm
      exact ⟨q, n, hp, by rw [List.getElem?_append_right (by rw [H.len]; exact Nat.le_refl _), H.len, Nat.sub_self, due_app hq]; rfl, by rw [due_app hq]; exact due_met hq, hq.app _⟩
  · rcases List.mem_append.mp hp with hp | hp
    · exact H.ok p hp
    · rw [List.mem_singleton.mp hp]; exact ok
  · exact List.nodup_append.mpr ⟨H.nd, by simp, fun a ha b hb e => hn (by rw [← List.mem_singleton.mp hb, ← e]; exact ha)⟩
/-- the fronts with a way's beginnings, as far as i -/
noncomputable def growI (fs : List (List Str)) (ns : List Str) (i : Nat) : List (List Str) := fs ++ ((List.range' 1 i).map fun j => ns.take j).filter fun p => decide (p ∉ fs)
theorem growI_succ (fs : List (List Str)) (ns : List Str) (i : Nat) : growI fs ns (i + 1) = if ns.take (i + 1) ∈ fs then growI fs ns i else growI fs ns i ++ [ns.take (i + 1)] := by
  unfold growI
  have e : List.range' 1 (i + 1) = List.range' 1 i ++ [i + 1] := by rw [List.range'_concat]; simp [Nat.add_comm]
  rw [e, List.map_append, List.filter_append]
  by_cases h : ns.take (i + 1) ∈ fs
  · rw [if_pos h]; simp [h]
  · rw [if_neg h]; simp [h]
theorem growI_mem {fs : List (List Str)} {ns : List Str} {i : Nat} (hi : i < ns.length) : ns.take (i + 1) ∈ growI fs ns i ↔ ns.take (i + 1) ∈ fs := by
  unfold growI
  rw [List.mem_append]
  refine ⟨fun h => h.resolve_right fun h2 => ?_, .inl⟩
  obtain ⟨h3, _⟩ := List.mem_filter.mp h2
  obtain ⟨j, hj, e⟩ := List.mem_map.mp h3
  have := congrArg List.length e
  rw [List.length_take, List.length_take] at this
  rw [List.mem_range'_1] at hj
  omega
/-- what the book is asked, where it isn't frozen -/
theorem num_open {es : List (Str × Nat)} {fs : List (List Str)} (H : EsOk es fs) {ns : List Str} (ok : NamesOk ns) : ∀ i, i ≤ ns.length →
    ∃ es', (ns.take i).foldl (numStep false) (es, 0) = (es', dueN (growI fs ns i) (ns.take i)) ∧ EsOk es' (growI fs ns i) ∧ Met (growI fs ns i) (ns.take i)
  | 0, _ => ⟨es, rfl, by unfold growI; simpa using H, .inl rfl⟩
  | i + 1, hi => by
    obtain ⟨es', h1, h2, h3⟩ := num_open H ok i (Nat.le_of_succ_le hi)
    have hy : ns[i]? = some ns[i] := List.getElem?_eq_getElem hi
    have ht : ns.take (i + 1) = ns.take i ++ [ns[i]] := by rw [List.take_add_one, hy]; rfl
    have hok : NameOk ns[i] := ok _ (List.getElem_mem hi)
    have hoks : NamesOk (ns.take i ++ [ns[i]]) := fun x hx => by rw [← ht] at hx; exact ok x (List.mem_of_mem_take hx)
    have hf := h2.find h3 hok
    rw [take_foldl _ _ _ hy, h1, growI_succ]
    unfold numStep keyStep
    dsimp only
    rw [hf, ← ht]
    by_cases hm : ns.take (i + 1) ∈ fs
    · rw [if_pos ((growI_mem hi).mpr hm), if_pos hm]
      exact ⟨es', rfl, h2, .inr ((growI_mem hi).mpr hm)⟩
    · have hm2 : ns.take (i + 1) ∉ growI fs ns i := fun e => hm ((growI_mem hi).mp e)
      rw [if_neg hm2, if_neg hm]
      dsimp only
      rw [if_neg (by decide)]
      refine ⟨es' ++ [(joinStep (numT (dueN (growI fs ns i) (ns.take i))) ns[i], es'.length + 1)], ?_, ?_, .inr (List.mem_append_right _ (.head _))⟩
      · rw [ht, due_new (by rw [← ht]; exact hm2), h2.len]
      · rw [ht]; exact h2.snoc h3 hoks (by rw [← ht]; exact hm2)
/-- what it is asked, where it is -/
theorem num_ice {es : List (Str × Nat)} {fs : List (List Str)} (H : EsOk es fs) {ns : List Str} (ok : NamesOk ns) : ∀ i, i ≤ ns.length →
    (ns.take i).foldl (numStep true) (es, 0) = (es, dueN fs (ns.take i)) ∧ (Met fs (ns.take i) ∨ dueN fs (ns.take i) = fs.length + 1)
  | 0, _ => ⟨rfl, .inl (.inl rfl)⟩
  | i + 1, hi => by
    obtain ⟨h1, h3⟩ := num_ice H ok i (Nat.le_of_succ_le hi)
    have hy : ns[i]? = some ns[i] := List.getElem?_eq_getElem hi
    have ht : ns.take (i + 1) = ns.take i ++ [ns[i]] := by rw [List.take_add_one, hy]; rfl
    have hok : NameOk ns[i] := ok _ (List.getElem_mem hi)
    have hne : ns.take (i + 1) ≠ [] := by rw [ht]; exact List.append_ne_nil_of_right_ne_nil _ (List.cons_ne_nil _ _)
    have off : ns.take (i + 1) ∉ fs → dueN fs (ns.take (i + 1)) = fs.length + 1 := fun h => by unfold dueN; rw [if_neg hne, idx_not h]
    rw [take_foldl _ _ _ hy, h1]
    unfold numStep keyStep
    dsimp only
    rcases h3 with h3 | h3
    · rw [H.find h3 hok, ← ht]
      by_cases hm : ns.take (i + 1) ∈ fs
      · rw [if_pos hm]; exact ⟨rfl, .inl (.inr hm)⟩
      · rw [if_neg hm]
        dsimp only
        rw [if_pos rfl, off hm, H.len]
        exact ⟨rfl, .inr rfl⟩
    · rw [h3, H.lost hok]
      dsimp only
      rw [if_pos rfl, H.len]
      have hm : ns.take (i + 1) ∉ fs := fun hm => by
        obtain ⟨k, hk⟩ := List.mem_iff_getElem?.mp hm
        obtain ⟨q, n, e1, _, _, e4⟩ := H.at_ k _ hk
        have e5 : q = ns.take i := (List.append_inj' (ht.symm.trans e1) rfl).1.symm
        rw [e5] at e4
        have := due_met e4
        omega
      rw [off hm]
      exact ⟨rfl, .inr rfl⟩
theorem back_of {es : List (Str × Nat)} {fs : List (List Str)} (H : EsOk es fs) : ∀ (m k : Nat) (p : List Str), k < m → fs[k]? = some p → Back (es.map (·.1)) (k + 1) p
  | 0, k, p, hk, _ => absurd hk (Nat.not_lt_zero _)
  | m + 1, k, p, hk, hp => by
    obtain ⟨q, n, e1, e2, e3, e4⟩ := H.at_ k p hp
    have hok : NameOk n := H.ok p (List.mem_of_getElem? hp) n (by rw [e1]; simp)
    rw [e1]
    refine .step (Nat.succ_pos _) (m := dueN fs q) ?_ hok (Nat.lt_succ_of_le e3) ?_
    · rw [Nat.succ_sub_one, List.getElem?_map, e2]; rfl
    · rcases e4 with rfl | e4
      · unfold dueN; rw [if_pos rfl]; exact .zero
      · have hne := H.ne q e4
        have h1 := (idx_at e4).1
        have hd : dueN fs q = idx fs q + 1 := by unfold dueN; rw [if_neg hne]
        rw [hd] at e3 ⊢
        exact back_of H m (idx fs q) q (by omega) h1
end
section
set_option maxHeartbeats 400000
noncomputable abbrev sa : Str := Str.ofString "a"
noncomputable abbrev sb : Str := Str.ofString "b"
noncomputable abbrev sab : Str := Str.ofString "ab"
noncomputable abbrev sc : Str := Str.ofString "c"
theorem c_sa : C sa = [97] := by decide +kernel
theorem c_sb : C sb = [98] := by decide +kernel
theorem strOk_C {x : Str} (h : ∀ c ∈ C x, c < 0x110000) : PyData.strOk x = true := by
  unfold PyData.strOk
  rw [Array.all_eq_true']
  intro c hc
  exact decide_eq_true (h c (by simpa [C] using hc))
theorem c_sab : C sab = [97, 98] := by decide +kernel
theorem c_sc : C sc = [99] := by decide +kernel
theorem ws_a (cs : List Str) : wordStep cs sa = cs ++ [sa] := by unfold wordStep; rw [if_neg (by decide +kernel), if_neg (by decide +kernel)]
theorem ws_b (cs : List Str) : wordStep cs sb = cs ++ [sb] := by unfold wordStep; rw [if_neg (by decide +kernel), if_neg (by decide +kernel)]
theorem ws_e (cs : List Str) : wordStep cs (Str.ofString "") = cs := by unfold wordStep; rw [if_neg (by decide +kernel), if_pos (by decide +kernel)]
theorem ws_d (cs : List Str) : wordStep cs dot = cs := by unfold wordStep; rw [if_neg (by decide +kernel), if_pos (by decide +kernel)]
theorem ws_dd (cs : List Str) : wordStep cs dd = cs.dropLast := by unfold wordStep; rw [if_pos (by decide +kernel)]
theorem lawStep_of {b : Str} {ws : List Str} {r : Bool} (h1 : Txt.split b sl = ws) (h2 : (Txt.slice b none (some 1) == sl) = r) (ns : List Str) : lawStep ns b = ws.foldl wordStep (if r = true then [] else ns) := by
  unfold lawStep; rw [h1, h2]
theorem digs_lt : ∀ (k n : Nat), ∀ d ∈ digs k n, d < 8
  | 0, _, d, hd => absurd hd (by simp [digs])
  | k + 1, n, d, hd => by
    unfold digs at hd
    split at hd
    · exact absurd hd (by simp)
    · rcases List.mem_cons.mp hd with rfl | hd
      · omega
      · exact digs_lt k _ d hd
theorem digs_len : ∀ (k j n : Nat), n < 8 ^ j → (digs k n).length ≤ j
  | 0, _, _, _ => by simp [digs]
  | k + 1, j, n, h => by
    unfold digs
    split
    · simp
    · cases j with
      | zero => simp at h; omega
      | succ j =>
        have := digs_len k j (n / 8) (by rw [Nat.div_lt_iff_lt_mul (by decide), ← Nat.pow_succ]; exact h)
        simp only [List.length_cons]; omega
theorem ws_ab (cs : List Str) : wordStep cs sab = cs ++ [sab] := by unfold wordStep; rw [if_neg (by decide +kernel), if_neg (by decide +kernel)]
/-- the names that law 1's ways bear, and the one that none bears -/
noncomputable abbrev AC (ns : List Str) : Prop := ∀ n ∈ ns, n = sa ∨ n = sb ∨ n = sab ∨ n = sc
noncomputable abbrev A3 (ns : List Str) : Prop := ∀ n ∈ ns, n = sa ∨ n = sb ∨ n = sab
theorem A3.ac {ns : List Str} (h : A3 ns) : AC ns := fun n hn => by rcases h n hn with e | e | e <;> simp [e]
theorem ac_name {n : Str} (h : n = sa ∨ n = sb ∨ n = sab ∨ n = sc) : NameOk n ∧ (C n).length ≤ 2 ∧ (∀ c ∈ C n, c < 0x110000) := by
  rcases h with rfl | rfl | rfl | rfl
  · exact ⟨⟨by rw [c_sa]; simp, by rw [c_sa]; decide, by decide +kernel, by decide +kernel⟩, by rw [c_sa]; decide, by rw [c_sa]; decide⟩
  · exact ⟨⟨by rw [c_sb]; simp, by rw [c_sb]; decide, by decide +kernel, by decide +kernel⟩, by rw [c_sb]; decide, by rw [c_sb]; decide⟩
  · exact ⟨⟨by rw [c_sab]; simp, by rw [c_sab]; decide, by decide +kernel, by decide +kernel⟩, by rw [c_sab]; decide, by rw [c_sab]; decide⟩
  · exact ⟨⟨by rw [c_sc]; simp, by rw [c_sc]; decide, by decide +kernel, by decide +kernel⟩, by rw [c_sc]; decide, by rw [c_sc]; decide⟩
theorem ac_ok {ns : List Str} (h : AC ns) : NamesOk ns := fun n hn => (ac_name (h n hn)).1
theorem ac_str {ns : List Str} (h : AC ns) : ∀ y ∈ ns, PyData.strOk y = true := fun y hy => strOk_C (ac_name (h y hy)).2.2
theorem ac_len1 {ns : List Str} (h : AC ns) : ∀ y ∈ ns, y.length ≤ 2 := fun y hy => by rw [← C_len]; exact (ac_name (h y hy)).2.1
theorem ac_joinL : ∀ {ns : List Str}, AC ns → (joinL (ns.map C)).length ≤ 3 * ns.length
  | [], _ => by simp [joinL]
  | [n], h => by
    have := (ac_name (h n (.head _))).2.1
    show (C n).length ≤ 3 * 1
    omega
  | n :: m :: r, h => by
    have h1 := ac_joinL (ns := m :: r) (fun x hx => h x (.tail _ hx))
    have h2 := (ac_name (h n (.head _))).2.1
    have e : joinL ((n :: m :: r).map C) = C n ++ 47 :: joinL ((m :: r).map C) := rfl
    rw [e, List.length_append, List.length_cons, List.length_cons]
    omega
theorem ac_len {r : Str} (hr : RootOk r) {ns : List Str} (h : AC ns) : (pathR r ns).length ≤ 3 * ns.length + 2 := by
  obtain ⟨k, hk, hk1⟩ := C_root hr
  rw [← C_len, C_path, List.length_append, hk, List.length_replicate]
  have := ac_joinL h
  omega
theorem a3_snoc {ns : List Str} (h : A3 ns) {n : Str} (hn : n = sa ∨ n = sb ∨ n = sab) : A3 (ns ++ [n]) := fun m hm => by
  rcases List.mem_append.mp hm with hm | hm
  · exact h m hm
  · rw [List.mem_singleton.mp hm]; exact hn
theorem a3_take {ns : List Str} (h : A3 ns) (j : Nat) : A3 (ns.take j) := fun n hn => h n (List.mem_of_mem_take hn)
theorem lawStep1_w1 {ns : List Str} (h : A3 ns) {b : Str} (hb : b ∈ w1) : lawStep ns b = lawStep1 ns b ∧ A3 (lawStep1 ns b) ∧ (lawStep1 ns b).length ≤ ns.length + 1 := by
  simp only [w1, List.mem_cons, List.not_mem_nil, or_false] at hb
  rcases hb with rfl | rfl | rfl | rfl | rfl | rfl | rfl | rfl
  · have e1 : lawStep1 ns (Str.ofString "a") = ns ++ [sa] := by
      unfold lawStep1
      rw [if_neg (by decide +kernel), if_neg (by decide +kernel), if_neg (by decide +kernel)]
    rw [lawStep_of (ws := [sa]) (r := false) (by decide +kernel) (by decide +kernel), e1]
    refine ⟨?_, a3_snoc h (.inl rfl), by simp⟩
    simp only [List.foldl_cons, List.foldl_nil, Bool.false_eq_true, if_false, ws_a]
    try rfl
  · have e1 : lawStep1 ns (Str.ofString "b") = ns ++ [sb] := by
      unfold lawStep1
      rw [if_neg (by decide +kernel), if_neg (by decide +kernel), if_neg (by decide +kernel)]
    rw [lawStep_of (ws := [sb]) (r := false) (by decide +kernel) (by decide +kernel), e1]
    refine ⟨?_, a3_snoc h (.inr (.inl rfl)), by simp⟩
    simp only [List.foldl_cons, List.foldl_nil, Bool.false_eq_true, if_false, ws_b]
    try rfl
  · have e1 : lawStep1 ns (Str.ofString "..") = ns.dropLast := by
      unfold lawStep1
      rw [if_neg (by decide +kernel), if_pos (by decide +kernel)]
    rw [lawStep_of (ws := [dd]) (r := false) (by decide +kernel) (by decide +kernel), e1]
    refine ⟨?_, fun n hn => h n ((List.dropLast_sublist ns).mem hn), by rw [List.length_dropLast]; omega⟩
    simp only [List.foldl_cons, List.foldl_nil, Bool.false_eq_true, if_false, ws_dd]
    try rfl
  · have e1 : lawStep1 ns (Str.ofString ".") = ns := by
      unfold lawStep1
      rw [if_neg (by decide +kernel), if_neg (by decide +kernel), if_pos (by decide +kernel)]
    rw [lawStep_of (ws := [dot]) (r := false) (by decide +kernel) (by decide +kernel), e1]
    refine ⟨?_, h, Nat.le_succ _⟩
    simp only [List.foldl_cons, List.foldl_nil, Bool.false_eq_true, if_false, ws_d]
    try rfl
  · have e1 : lawStep1 ns (Str.ofString "") = ns := by
      unfold lawStep1
      rw [if_neg (by decide +kernel), if_neg (by decide +kernel), if_pos (by decide +kernel)]
    rw [lawStep_of (ws := [Str.ofString ""]) (r := false) (by decide +kernel) (by decide +kernel), e1]
    refine ⟨?_, h, Nat.le_succ _⟩
    simp only [List.foldl_cons, List.foldl_nil, Bool.false_eq_true, if_false, ws_e]
    try rfl
  · have e1 : lawStep1 ns (Str.ofString "/a") = [sa] := by
      unfold lawStep1
      rw [if_pos (by decide +kernel), show Txt.stripChars (Str.ofString "/a") (Str.ofString "/") = sa by decide +kernel]
    rw [lawStep_of (ws := [Str.ofString "", sa]) (r := true) (by decide +kernel) (by decide +kernel), e1]
    refine ⟨?_, a3_snoc (ns := []) (fun n hn => absurd hn (by simp)) (.inl rfl), by simp⟩
    simp only [List.foldl_cons, List.foldl_nil, if_true, ws_e, ws_a]
    try rfl
  · have e1 : lawStep1 ns (Str.ofString "//b") = [sb] := by
      unfold lawStep1
      rw [if_pos (by decide +kernel), show Txt.stripChars (Str.ofString "//b") (Str.ofString "/") = sb by decide +kernel]
    rw [lawStep_of (ws := [Str.ofString "", Str.ofString "", sb]) (r := true) (by decide +kernel) (by decide +kernel), e1]
    refine ⟨?_, a3_snoc (ns := []) (fun n hn => absurd hn (by simp)) (.inr (.inl rfl)), by simp⟩
    simp only [List.foldl_cons, List.foldl_nil, if_true, ws_e, ws_b]
    try rfl
  · have e1 : lawStep1 ns (Str.ofString "ab") = ns ++ [sab] := by
      unfold lawStep1
      rw [if_neg (by decide +kernel), if_neg (by decide +kernel), if_neg (by decide +kernel)]
    rw [lawStep_of (ws := [sab]) (r := false) (by decide +kernel) (by decide +kernel), e1]
    refine ⟨?_, a3_snoc h (.inr (.inr rfl)), by simp⟩
    simp only [List.foldl_cons, List.foldl_nil, Bool.false_eq_true, if_false, ws_ab]
    try rfl
theorem lawSteps_w1 : ∀ (bs : List Str) {ns : List Str}, A3 ns → (∀ b ∈ bs, b ∈ w1) → bs.foldl lawStep ns = bs.foldl lawStep1 ns ∧ A3 (bs.foldl lawStep1 ns) ∧ (bs.foldl lawStep1 ns).length ≤ ns.length + bs.length
  | [], ns, h, _ => ⟨rfl, h, by simp⟩
  | b :: r, ns, h, hb => by
    obtain ⟨h0, h1, h2⟩ := lawStep1_w1 h (hb b (.head _))
    obtain ⟨h3, h4, h5⟩ := lawSteps_w1 r h1 fun x hx => hb x (.tail _ hx)
    rw [List.foldl_cons, List.foldl_cons, h0]
    exact ⟨h3, h4, by rw [List.length_cons]; omega⟩
theorem w1_len {b : Str} (hb : b ∈ w1) : b.length ≤ 3 := by
  simp only [w1, List.mem_cons, List.not_mem_nil, or_false] at hb
  rcases hb with rfl | rfl | rfl | rfl | rfl | rfl | rfl | rfl <;> decide +kernel
theorem w1_sum : ∀ (bs : List Str), (∀ b ∈ bs, b ∈ w1) → (bs.map fun y => y.length + 1).sum ≤ 4 * bs.length
  | [], _ => by simp
  | b :: r, h => by
    have h1 := w1_len (h b (.head _))
    have h2 := w1_sum r fun x hx => h x (.tail _ hx)
    simp only [List.map_cons, List.sum_cons, List.length_cons]
    omega
theorem steps_w1 (n : Nat) : ∀ b ∈ stepsS1 n, b ∈ w1 := fun b hb => by
  unfold stepsS1 at hb
  obtain ⟨d, hd, rfl⟩ := List.mem_map.mp hb
  have h8 := digs_lt 5 n d hd
  have hl : d < w1.length := h8
  rw [List.getD_eq_getElem?_getD, List.getElem?_eq_getElem hl]
  exact List.getElem_mem hl
theorem steps_len1 {n : Nat} (h : n < 4096) : (stepsS1 n).length ≤ 4 := by
  unfold stepsS1
  rw [List.length_map]
  exact digs_len 5 4 n h
theorem path_head1 {r : Str} (hr : RootOk r) (ns : List Str) : (C (pathR r ns)).head? = some 47 := by
  obtain ⟨k, hk, _⟩ := C_root hr
  rw [C_path, hk]; rfl
theorem spot1 {r : Str} (hr : RootOk r) {ns bs : List Str} (h : A3 ns) (hb : ∀ b ∈ bs, b ∈ w1) : ∃ r', RootOk r' ∧ normS (bs.foldl joinStep (pathR r ns)) = pathR r' (bs.foldl lawStep1 ns) ∧ (rootS (bs.foldl joinStep (pathR r ns))).1.length ≠ 0 ∧ (bs.foldl joinStep (pathR r ns)).length ≠ 0 := by
  have hn := ac_ok h.ac
  have hp := path_head1 hr ns
  have hc := comps_path hr hn
  obtain ⟨h1, h2, h3⟩ := comps_steps bs (pathR r ns) hp (by rw [hc]; exact hn)
  rw [hc, (lawSteps_w1 bs h hb).1] at h1
  refine ⟨rootOf (bs.foldl joinStep (pathR r ns)), rootOf_ok _, by rw [normS_path h3, h1], ?_, ?_⟩
  · rw [(root_cases h3).1]
    rcases rootOf_ok (bs.foldl joinStep (pathR r ns)) with e | e <;> rw [e]
    · exact (show sl.length ≠ 0 by decide +kernel)
    · exact (show (Str.ofString "//").length ≠ 0 by decide +kernel)
  · rw [← C_len]; intro e; rw [List.eq_nil_of_length_eq_zero e] at h3; cases h3
end
section
set_option maxHeartbeats 400000
section
variable {prog : Program} {w : World} {A : Around} {E : Value → Shared → Prop} {s : Shared} {env : Env} {g : Heap} {x : Str} {body : List Stmt} {Q : Flow → Shared → Prop}
/-- a loop over a range by ones -/
theorem for_range {σ : Type} {r : Addr} {a b : Int} {t u' v' : Tok} {n : Nat} {m₀ : Str → Option Value} {news : List (Addr × Obj)}
    (Led : σ → List (Addr × Obj)) (ps : σ → List (Str × Value)) (P : Nat → σ → Prop) (c₀ : σ)
    (hh : A.handled = none) (hr : IsRange s.heap r a b 1 t u' v') (hsm : Builtin.Range.small a b 1 = true) (hn : Builtin.Range.rangeSize a b 1 = ((n : Nat) : Int))
    (F : Fr g env.locals s.heap m₀) (N : News g env.locals s.heap news) (h1 : Sub news (Led c₀)) (h3 : AllAt m₀ (ps c₀)) (h4 : P 0 c₀)
    (turn : ∀ i t c h tk I it u, i < n → P i c → Fr g env.locals h (fun y => if y = x then some (.int (a + (i : Int)) t) else chain (ps c) u y) → News g env.locals h ((I, it) :: Led c) → it.cls = .type "range_iterator" → AllNe I (Led c) →
      wpAny (model prog w) A (execs body env) (TPost2 g env.locals Led ps (P (i + 1)) "range_iterator" (I, it) { s with heap := h, toks := tk } Q) E { s with heap := h, toks := tk })
    (done : ∀ c h tk u, P n c → Fr g env.locals h (chain (ps c) u) → News g env.locals h (Led c) → Q .next { s with heap := h, toks := tk }) :
    wpAny (model prog w) A (pyIter (.ref r)) (fun it s₂ => LoopAtV prog w A g env x body Q E it s₂) E s := by
  refine wpAny_pyIter_range hr hsm ?_
  have W := LCg.range_walks (prog := prog) (w := w) (I := s.heap.objs.size) hh a n
  refine for_core2 (s := { s with heap := s.heap.push _ }) (src := []) (icls := "range_iterator") Led ps P c₀ W ?_ ?_ ?_ (next_is_new F) (Nat.ne_of_lt F.ns.lt) ?_ (F.push _) (fun p hp => ⟨Heap.get?_push_of_some _ (N p hp).1, (N p hp).2⟩) h1.mem h3 h4 ?_ ?_ ?_
  · intro i h st; exact ⟨_, st, rfl⟩
  · intro q hq; exact absurd hq (by simp)
  · show IsRangeIter _ _ _ _ _
    rw [hn]; simpa using Heap.get?_push_size _ rfl
  · intro q hq; exact absurd hq (by simp)
  · intro p hp; exact Nat.ne_of_lt (Heap.lt_size (N p hp).1)
  · rintro i v c h tk it u hi ⟨t, rfl⟩ hP F' N' hcl hne
    exact turn i t c h tk _ it u hi hP F' N' hcl hne
  · intro c h tk u hP F' N'
    exact done c h tk u hP F' N'
end
end
section
theorem apart_new {g h h' : Heap} {L : Addr} {l l' rest : List Row} (N : News g L h rest) (hr : Apart rest l) (U : Under (hid h l) h' l') : Apart l' rest := fun p hp q hq e => by
  have h1 := (U.at_ p hp).2
  have h2 := hid_at (l := l) (N q hq).1 fun r hr' e2 => hr q hq r hr' (by exact e2.symm)
  rw [show p.1 = q.1 from e, h2] at h1
  cases h1
theorem blk {g h h' : Heap} {L : Addr} {m : Str → Option Value} {pre post : List (List Row)} {l l1 R Rn : List Row} (F : Fr g L h m) (N : News g L h (pre ++ l :: (post ++ [R])).flatten) (P : (pre ++ l :: (post ++ [R])).Pairwise Apart) (U : Under (hid h l) h' (l1 ++ Rn)) (ap1 : Apart l1 Rn) :
    Fr g L h' m ∧ News g L h' (pre ++ l1 :: (post ++ [R ++ Rn])).flatten ∧ (pre ++ l1 :: (post ++ [R ++ Rn])).Pairwise Apart := by
  rw [List.pairwise_append, List.pairwise_cons, List.pairwise_append] at P
  obtain ⟨P1, ⟨P2, P3, P4, P5⟩, P6⟩ := P
  have hl : ∀ b, b ∈ pre ∨ b ∈ post ∨ b = R → Apart b l := fun b hb => by
    rcases hb with hb | hb | rfl
    · exact P6 b hb l (.head _)
    · exact (P2 b (List.mem_append_left _ hb)).symm
    · exact (P2 _ (List.mem_append_right _ (.head _))).symm
  have hm : ∀ e, e ∈ (pre ++ l :: (post ++ [R])).flatten ↔ e ∈ l ∨ ∃ b, (b ∈ pre ∨ b ∈ post ∨ b = R) ∧ e ∈ b := fun e => by
    simp only [List.mem_flatten, List.mem_append, List.mem_cons, List.not_mem_nil, or_false]
    constructor
    · rintro ⟨b, (hb | rfl | hb | rfl), he⟩
      · exact .inr ⟨b, .inl hb, he⟩
      · exact .inl he
      · exact .inr ⟨b, .inr (.inl hb), he⟩
      · exact .inr ⟨b, .inr (.inr rfl), he⟩
    · rintro (he | ⟨b, (hb | hb | rfl), he⟩)
      · exact ⟨l, .inr (.inl rfl), he⟩
      · exact ⟨b, .inl hb, he⟩
      · exact ⟨b, .inr (.inr (.inl hb)), he⟩
      · exact ⟨b, .inr (.inr (.inr rfl)), he⟩
  have N1 : News g L h (l ++ (pre ++ post ++ [R]).flatten) := fun e he => N e ((hm e).mpr (by
    rcases List.mem_append.mp he with he | he
    · exact .inl he
    · obtain ⟨b, hb, he⟩ := List.mem_flatten.mp he
      refine .inr ⟨b, ?_, he⟩
      simp only [List.mem_append, List.mem_cons, List.not_mem_nil, or_false] at hb
      rcases hb with (hb | hb) | hb
      · exact .inl hb
      · exact .inr (.inl hb)
      · exact .inr (.inr hb)))
  have hrl : Apart (pre ++ post ++ [R]).flatten l := fun p hp q hq => by
    obtain ⟨b, hb, hp⟩ := List.mem_flatten.mp hp
    simp only [List.mem_append, List.mem_cons, List.not_mem_nil, or_false] at hb
    exact hl b (by rcases hb with (hb | hb) | hb; exact .inl hb; exact .inr (.inl hb); exact .inr (.inr hb)) p hp q hq
  have hnew := apart_new (fun e he => N1 e (List.mem_append_right _ he)) hrl U
  obtain ⟨F', N'⟩ := under_frame F N1 (fun p hp q hq => (hrl p hp q hq).symm) U
  have hnb : ∀ b, b ∈ pre ∨ b ∈ post ∨ b = R → Apart (l1 ++ Rn) b := fun b hb p hp q hq => hnew p hp q (List.mem_flatten.mpr ⟨b, by
    simp only [List.mem_append, List.mem_cons, List.not_mem_nil, or_false]
    rcases hb with hb | hb | hb
    · exact .inl (.inl hb)
    · exact .inl (.inr hb)
    · exact .inr hb, hq⟩)
  refine ⟨F', fun e he => N' e ?_, ?_⟩
  · simp only [List.mem_flatten, List.mem_append, List.mem_cons, List.not_mem_nil, or_false] at he
    obtain ⟨b, hb, he⟩ := he
    rcases hb with hb | rfl | hb | rfl
    · exact List.mem_append_right _ (List.mem_flatten.mpr ⟨b, by simp [hb], he⟩)
    · exact List.mem_append_left _ (List.mem_append_left _ he)
    · exact List.mem_append_right _ (List.mem_flatten.mpr ⟨b, by simp [hb], he⟩)
    · rcases List.mem_append.mp he with he | he
      · exact List.mem_append_right _ (List.mem_flatten.mpr ⟨R, by simp, he⟩)
      · exact List.mem_append_left _ (List.mem_append_right _ he)
  · rw [List.pairwise_append, List.pairwise_cons, List.pairwise_append]
    refine ⟨P1, ⟨fun b hb => ?_, P3, List.pairwise_singleton _ _, fun a ha b hb => ?_⟩, fun a ha b hb => ?_⟩
    · rcases List.mem_append.mp hb with hb | hb
      · exact (hnb b (.inr (.inl hb))).lefts.1
      · rw [List.mem_singleton.mp hb]
        exact ((hnb R (.inr (.inr rfl))).lefts.1).appR ap1
    · rw [List.mem_singleton.mp hb]
      exact (P5 a ha R (.head _)).appR ((hnb a (.inr (.inl ha))).lefts.2.symm)
    · rcases List.mem_cons.mp hb with rfl | hb
      · exact (hnb a (.inl ha)).lefts.1.symm
      · rcases List.mem_append.mp hb with hb | hb
        · exact P6 a ha b (.tail _ (List.mem_append_left _ hb))
        · rw [List.mem_singleton.mp hb]
          exact (P6 a ha R (.tail _ (List.mem_append_right _ (.head _)))).appR ((hnb a (.inl ha)).lefts.2.symm)
theorem datAll_snoc {R : List Row} : ∀ {vs : List Value} {ds : List Dat} {v : Value} {d : Dat}, DatAll R vs ds → DatIn R v d → DatAll R (vs ++ [v]) (ds ++ [d])
  | _, _, _, _, .nil, h => .cons h .nil
  | _, _, _, _, .cons a b, h => .cons a (datAll_snoc b h)
section
variable {prog : Program} {w : World} {A : Around} {E : Value → Shared → Prop} {s : Shared}
theorem happend {D : Addr} {vs : List Value} {n : Nat} {x : Value} {Q : Value → Shared → Prop} (ho : s.heap.get? D = some (listOf vs.toArray n)) (hz : vs.length ≤ 1000000)
    (h : ∀ h', Under (hid s.heap [(D, listOf vs.toArray n)]) h' ([(D, listOf (vs ++ [x]).toArray (n + 1))] ++ []) → Q .none { s with heap := h' }) : wpAny (model prog w) A (call (.builtin "list.append") [.ref D, x]) Q E s := by
  refine append_at ho (fun h' hs ho' => h h' ⟨fun b o e => ?_, ?_, fun p hp => ?_⟩) (by rw [List.size_toArray, sizeLine_eq]; omega)
  · have hb : b ≠ D := fun q => by
      have : (hid s.heap [(D, PySem.W.listOf vs.toArray n)]).get? b = none := hideAll_none _ (by rw [q]; exact .head _)
      rw [this] at e; cases e
    exact (hs.2 b hb).trans (of_hideAll _ e)
  · rw [hideAll_size]; exact Nat.le_of_eq hs.1.symm
  · rw [List.append_nil] at hp
    rw [List.mem_singleton.mp hp]
    rw [List.push_toArray] at ho'
    exact ⟨ho', hideAll_none _ (.head _)⟩
end
theorem path_nil : pathR sl [] = Str.ofString "/" := by decide +kernel
theorem intsAre_get : ∀ {vs : List Value} {ks : List Int} {i : Nat} {v : Value}, IntsAre vs ks → vs[i]? = some v → ∃ k t, v = .int k t ∧ ks[i]? = some k
  | _, _, i, v, .nil, h => by simp at h
  | _, _, 0, v, .cons k t r, h => ⟨k, t, by simpa using h.symm, rfl⟩
  | _, _, i + 1, v, .cons k t r, h => by
    obtain ⟨k', t', e, h'⟩ := intsAre_get r (by simpa using h)
    exact ⟨k', t', e, by simpa using h'⟩
theorem blk_fresh {g h h' : Heap} {L a : Addr} {o : Obj} {m : Str → Option Value} {pre : List (List Row)} {R : List Row} (F : Fr g L h m) (N : News g L h (pre ++ [R]).flatten) (P : (pre ++ [R]).Pairwise Apart) (k : Keeps h h') (n : h.get? a = none) (ob : h'.get? a = some o) :
    Fr g L h' m ∧ News g L h' (pre ++ [R ++ [(a, o)]]).flatten ∧ (pre ++ [R ++ [(a, o)]]).Pairwise Apart := by
  have hna : ∀ e ∈ (pre ++ [R]).flatten, @Ne Nat e.1 a := fun e he q => by
    have := (N e he).1
    rw [show e.1 = a from q, n] at this; cases this
  have N' := news_add k n ob F N
  refine ⟨F.keeps k, fun e he => N' e ?_, ?_⟩
  · simp only [List.flatten_append, List.flatten_cons, List.flatten_nil, List.append_nil, List.mem_append, List.mem_cons, List.not_mem_nil, or_false] at he ⊢
    rcases he with he | he | he
    · exact .inr (.inl he)
    · exact .inr (.inr he)
    · exact .inl he
  · rw [List.pairwise_append] at P ⊢
    refine ⟨P.1, List.pairwise_singleton _ _, fun b hb c hc => ?_⟩
    rw [List.mem_singleton.mp hc]
    refine (P.2.2 b hb R (.head _)).appR fun p hp q hq => ?_
    rw [List.mem_singleton.mp hq]
    exact hna p (List.mem_flatten.mpr ⟨b, List.mem_append_left _ hb, hp⟩)
theorem pair_it {I : Addr} {it : Obj} {B : List (List Row)} (h : AllNe I B.flatten) (P : B.Pairwise Apart) : ([(I, it)] :: B).Pairwise Apart :=
  List.pairwise_cons.mpr ⟨fun b hb p hp q hq e => by
    rw [List.mem_singleton.mp hp] at e
    exact allNe_mem h q (List.mem_flatten.mpr ⟨b, hb, hq⟩) e.symm, P⟩

noncomputable abbrev rest7 (b : List Row) (t s f w k : Row) (R : List Row) : List (List Row) := [b, [t], [s], [f], [w], [k], R]
section
variable {g h h' : Heap} {L : Addr} {m : Str → Option Value} {C I b b' : List Row} {t s f w k t' s' f' w' : Row} {R Rn : List Row}
theorem blk_b (F : Fr g L h m) (N : News g L h (C :: I :: rest7 b t s f w k R).flatten) (P : (C :: I :: rest7 b t s f w k R).Pairwise Apart) (U : Under (hid h b) h' b') :
    Fr g L h' m ∧ News g L h' (C :: I :: rest7 b' t s f w k R).flatten ∧ (C :: I :: rest7 b' t s f w k R).Pairwise Apart := by
  have := blk (pre := [C, I]) (l := b) (l1 := b') (R := R) (Rn := []) (post := [[t], [s], [f], [w], [k]]) F N P (by rw [List.append_nil]; exact U) (fun p hp q hq => nomatch hq)
  rw [List.append_nil R] at this; exact this
theorem blk_t (F : Fr g L h m) (N : News g L h (C :: I :: rest7 b t s f w k R).flatten) (P : (C :: I :: rest7 b t s f w k R).Pairwise Apart) (U : Under (hid h [t]) h' ([t'] ++ [])) :
    Fr g L h' m ∧ News g L h' (C :: I :: rest7 b t' s f w k R).flatten ∧ (C :: I :: rest7 b t' s f w k R).Pairwise Apart := by
  have := blk (pre := [C, I, b]) (l := [t]) (l1 := [t']) (R := R) (Rn := []) (post := [[s], [f], [w], [k]]) F N P U (fun p hp q hq => nomatch hq)
  rw [List.append_nil R] at this; exact this
theorem blk_s (F : Fr g L h m) (N : News g L h (C :: I :: rest7 b t s f w k R).flatten) (P : (C :: I :: rest7 b t s f w k R).Pairwise Apart) (U : Under (hid h [s]) h' ([s'] ++ [])) :
    Fr g L h' m ∧ News g L h' (C :: I :: rest7 b t s' f w k R).flatten ∧ (C :: I :: rest7 b t s' f w k R).Pairwise Apart := by
  have := blk (pre := [C, I, b, [t]]) (l := [s]) (l1 := [s']) (R := R) (Rn := []) (post := [[f], [w], [k]]) F N P U (fun p hp q hq => nomatch hq)
  rw [List.append_nil R] at this; exact this
theorem blk_f (F : Fr g L h m) (N : News g L h (C :: I :: rest7 b t s f w k R).flatten) (P : (C :: I :: rest7 b t s f w k R).Pairwise Apart) (U : Under (hid h [f]) h' ([f'] ++ [])) :
    Fr g L h' m ∧ News g L h' (C :: I :: rest7 b t s f' w k R).flatten ∧ (C :: I :: rest7 b t s f' w k R).Pairwise Apart := by
  have := blk (pre := [C, I, b, [t], [s]]) (l := [f]) (l1 := [f']) (R := R) (Rn := []) (post := [[w], [k]]) F N P U (fun p hp q hq => nomatch hq)
  rw [List.append_nil R] at this; exact this
theorem blk_w (F : Fr g L h m) (N : News g L h (C :: I :: rest7 b t s f w k R).flatten) (P : (C :: I :: rest7 b t s f w k R).Pairwise Apart) (U : Under (hid h [w]) h' ([w'] ++ [])) :
    Fr g L h' m ∧ News g L h' (C :: I :: rest7 b t s f w' k R).flatten ∧ (C :: I :: rest7 b t s f w' k R).Pairwise Apart := by
  have := blk (pre := [C, I, b, [t], [s], [f]]) (l := [w]) (l1 := [w']) (R := R) (Rn := []) (post := [[k]]) F N P U (fun p hp q hq => nomatch hq)
  rw [List.append_nil R] at this; exact this
theorem blk_r {a : Addr} {o : Obj} (F : Fr g L h m) (N : News g L h (C :: I :: rest7 b t s f w k R).flatten) (P : (C :: I :: rest7 b t s f w k R).Pairwise Apart) (kp : Keeps h h') (n : h.get? a = none) (ob : h'.get? a = some o) :
    Fr g L h' m ∧ News g L h' (C :: I :: rest7 b t s f w k (R ++ [(a, o)])).flatten ∧ (C :: I :: rest7 b t s f w k (R ++ [(a, o)])).Pairwise Apart :=
  blk_fresh (pre := [C, I, b, [t], [s], [f], [w], [k]]) F N P kp n ob
theorem mem_b {e : Row} (he : e ∈ b) : e ∈ (C :: I :: rest7 b t s f w k R).flatten := List.mem_flatten.mpr ⟨b, .tail _ (.tail _ (.head _)), he⟩
theorem mem_t : t ∈ (C :: I :: rest7 b t s f w k R).flatten := List.mem_flatten.mpr ⟨[t], .tail _ (.tail _ (.tail _ (.head _))), .head _⟩
theorem mem_s : s ∈ (C :: I :: rest7 b t s f w k R).flatten := List.mem_flatten.mpr ⟨[s], .tail _ (.tail _ (.tail _ (.tail _ (.head _)))), .head _⟩
theorem mem_f : f ∈ (C :: I :: rest7 b t s f w k R).flatten := List.mem_flatten.mpr ⟨[f], .tail _ (.tail _ (.tail _ (.tail _ (.tail _ (.head _))))), .head _⟩
theorem mem_w : w ∈ (C :: I :: rest7 b t s f w k R).flatten := List.mem_flatten.mpr ⟨[w], .tail _ (.tail _ (.tail _ (.tail _ (.tail _ (.tail _ (.head _)))))), .head _⟩
theorem mem_k : k ∈ (C :: I :: rest7 b t s f w k R).flatten := List.mem_flatten.mpr ⟨[k], .tail _ (.tail _ (.tail _ (.tail _ (.tail _ (.tail _ (.tail _ (.head _))))))), .head _⟩
theorem mem_R {e : Row} (he : e ∈ R) : e ∈ (C :: I :: rest7 b t s f w k R).flatten := List.mem_flatten.mpr ⟨R, .tail _ (.tail _ (.tail _ (.tail _ (.tail _ (.tail _ (.tail _ (.tail _ (.head _)))))))), he⟩
end
end
section
set_option maxHeartbeats 400000
section
variable {prog : Program} {w : World} {A : Around} {h₀ : Heap} {L : Addr} {m : Str → Option Value} {env : Env} {ct elt : Expr} {x : Str} {scope : Scope} {cl : List (Str × Addr)} {s : Shared} {S : List (Addr × Obj) → Prop} {P : Nat → Value → Prop} {Fin : List Value → List (Addr × Obj) → Prop} {news : List (Addr × Obj)}
theorem compU_inv {n : Nat} (J : Nat → List Value → List (Addr × Obj) → Prop) (h0 : J 0 [] news) (fin : ∀ ys nw, J n ys nw → Fin ys nw)
    (turn : ∀ i v I oI C oC D m₂ ys nw h tk (E' : Value → Shared → Prop), i < n → P i v → J i ys nw → LCg.NsObj oC m₂ → m₂ x = some v → Fr h₀ L h m → News h₀ L h ((I, oI) :: (C, oC) :: (D, LCg.lst ys) :: nw) → LCg.Off3 I C D nw → ((@Ne Nat I C) ∧ (@Ne Nat I D) ∧ (@Ne Nat C D)) →
      wpAny (model prog w) A (eval elt (compEnvC scope cl C env)) (LCg.CompEnd h₀ L m { s with heap := h, toks := tk } I oI C oC D (LCg.lst ys) S (fun y nw' => Stop (J (i + 1) (ys ++ [y]) nw'))) E' { s with heap := h, toks := tk }) :
    LCg.CompRest prog w A h₀ L m env elt x scope cl s S P Fin n 0 [] news := by
  have key : ∀ (j i : Nat) (ys : List Value) nw, i + j = n → J i ys nw → LCg.CompRest prog w A h₀ L m env elt x scope cl s S P Fin j i ys nw := by
    intro j
    induction j with
    | zero => intro i ys nw hi hy; rw [show i = n by omega] at hy; exact fin ys nw hy
    | succ j ih =>
      intro i ys nw hi hy
      refine LCg.CompRest.succ ?_
      intro v I oI C oC D m₂ h tk E' hv hC hx F N off ne
      refine wpAny_mono (turn i v I oI C oC D m₂ ys nw h tk E' (by omega) hv hy hC hx F N off ne) (fun y s₃ hr => ?_) fun _ _ e => e
      obtain ⟨h', tk', nw', e, F', N', off', hS, hr'⟩ := hr
      exact ⟨h', tk', nw', e, F', N', off', hS, ih (i + 1) _ _ (by omega) hr'⟩
  exact key n 0 [] news (by omega) h0
theorem compT_inv {n : Nat} (J : Nat → List Value → List (Addr × Obj) → Prop) (h0 : J 0 [] news) (fin : ∀ ys nw, J n ys nw → Fin ys nw)
    (turn : ∀ i v I oI C oC D m₂ ys nw h tk (E' : Value → Shared → Prop), i < n → P i v → J i ys nw → LCg.NsObj oC m₂ → m₂ x = some v → Fr h₀ L h m → News h₀ L h ((I, oI) :: (C, oC) :: (D, LCg.lst ys) :: nw) → LCg.Off3 I C D nw → ((@Ne Nat I C) ∧ (@Ne Nat I D) ∧ (@Ne Nat C D)) →
      wpAny (model prog w) A (isTrue ct (compEnvC scope cl C env) (eval ct (compEnvC scope cl C env))) (fun ok s' => WhlIf ok
        (wpAny (model prog w) A (eval elt (compEnvC scope cl C env)) (LCg.CompEnd h₀ L m { s with heap := h, toks := tk } I oI C oC D (LCg.lst ys) S (fun y nw' => Stop (J (i + 1) (ys ++ [y]) nw'))) E' s')
        (LCg.CompEnd h₀ L m { s with heap := h, toks := tk } I oI C oC D (LCg.lst ys) S (fun _ nw' => Stop (J (i + 1) ys nw')) Value.none s')) E' { s with heap := h, toks := tk }) :
    LCt.CompRestT prog w A h₀ L m env ct elt x scope cl s S P Fin n 0 [] news := by
  have key : ∀ (j i : Nat) (ys : List Value) nw, i + j = n → J i ys nw → LCt.CompRestT prog w A h₀ L m env ct elt x scope cl s S P Fin j i ys nw := by
    intro j
    induction j with
    | zero => intro i ys nw hi hy; rw [show i = n by omega] at hy; exact fin ys nw hy
    | succ j ih =>
      intro i ys nw hi hy
      refine LCt.CompRestT.succ ?_
      intro v I oI C oC D m₂ h tk E' hv hC hx F N off ne
      refine wpAny_mono (turn i v I oI C oC D m₂ ys nw h tk E' (by omega) hv hy hC hx F N off ne) (fun b s₂ hq => ?_) fun _ _ e => e
      cases b with
      | true =>
        unfold WhlIf at hq
        simp only [if_true] at hq ⊢
        refine wpAny_mono hq (fun y s₃ hr => ?_) fun _ _ e => e
        obtain ⟨h', tk', nw', e, F', N', off', hS, hr'⟩ := hr
        exact ⟨h', tk', nw', e, F', N', off', hS, ih (i + 1) _ _ (by omega) hr'⟩
      | false =>
        unfold WhlIf at hq
        simp only [Bool.false_eq_true, if_false] at hq ⊢
        obtain ⟨h', tk', nw', e, F', N', off', hS, hr'⟩ := hq
        exact ⟨h', tk', nw', e, F', N', off', hS, ih (i + 1) _ _ (by omega) hr'⟩
  exact key n 0 [] news (by omega) h0
end
end
section
set_option maxHeartbeats 400000
theorem upd_of_split {D : Addr} {o o' : Obj} : ∀ (pre post : List (Addr × Obj)), (∀ p ∈ pre, p.1 ≠ D) → (∀ p ∈ post, p.1 ≠ D) → Upd D o o' (pre ++ (D, o) :: post) (pre ++ (D, o') :: post)
  | [], _, _, h => .head h
  | p :: r, post, h1, h2 => .tail (h1 p (.head _)) (upd_of_split r post (fun q hq => h1 q (.tail _ hq)) h2)
theorem updF_to {D : Addr} {o : Obj} {news : List (Addr × Obj)} {u : Obj → List (Addr × Obj)} (U : UpdF D o news u) (o' : Obj) : Upd D o o' news (u o') := by
  obtain ⟨pre, post, rfl, hu, a, b⟩ := U.split
  rw [hu]; exact upd_of_split pre post a b
section
variable {prog : Program} {w : World} {A : Around} {E : Value → Shared → Prop} {s : Shared} {g : Heap} {L D b : Addr} {m : Str → Option Value} {news : List (Addr × Obj)} {u : Obj → List (Addr × Obj)}
theorem lextend {vs ws : List Value} {n n2 : Nat} {Q : Value → Shared → Prop} (F : Fr g L s.heap m) (N : News g L s.heap news) (hb : (b, listOf ws.toArray n2) ∈ news) (U : UpdF D (listOf vs.toArray n) news u) (hz : vs.length + ws.length ≤ 1000000)
    (h : ∀ h' n', Fr g L h' m → News g L h' (u (listOf (vs ++ ws).toArray n')) → Q .none { s with heap := h' }) : wpAny (model prog w) A (call (.builtin "list.extend") [.ref D, .ref b]) Q E s := by
  have hd : ¬(!vs.toArray.isEmpty && Builtin.List.listTooLong (vs.toArray.size + ws.toArray.size)) = true := by
    unfold Builtin.List.listTooLong
    rw [List.size_toArray, List.size_toArray, sizeLine_eq]
    simp only [Bool.and_eq_true, not_and]
    intro _; simp; omega
  by_cases hw : ws = []
  · subst hw
    refine kxn_extend F N hb rfl (updF_to U _) hd (by simp [sizeLine_eq]; simp at hz; omega) (by simp [sizeLine_eq]; simp at hz; omega) fun h' F' N' => ?_
    refine h h' n F' ?_
    rw [List.append_nil]; exact N'
  · refine kl_extend (l := vs ++ ws) F N hb (by simp) (by simpa using hw) (updF_to U _) hd (by simp [sizeLine_eq]; omega) (by simp [sizeLine_eq]; omega) fun h' F' N' => h h' (n + 1) F' N'
end
theorem pick_upto (vs : List Value) (i : Nat) : slicePick vs.toArray none (some ((1 : Int) + (i : Int))) none = (vs.take (i + 1)).toArray := by
  rw [show (1 : Int) + (i : Int) = ((i + 1 : Nat) : Int) by omega, slicePick_upto']
theorem pick_upto1 (vs : List Value) (i : Nat) : slicePick vs.toArray none (some ((i : Int) + 1)) none = (vs.take (i + 1)).toArray := by
  rw [show (i : Int) + 1 = ((i + 1 : Nat) : Int) by omega, slicePick_upto']
theorem strsAre_take : ∀ {vs : List Value} {ys : List Str} (n : Nat), StrsAre vs ys → StrsAre (vs.take n) (ys.take n)
  | _, _, 0, _ => by simpa using StrsAre.nil
  | _, _, n + 1, .nil => by simpa using StrsAre.nil
  | _, _, n + 1, .cons y t h => by simpa using .cons y t (strsAre_take n h)
theorem range_small {n : Nat} (h : n ≤ 60) : Builtin.Range.small 1 ((n : Int) + 1) 1 = true := by
  have key : ∀ m : Nat, m < 61 → Builtin.Range.small 1 ((m : Int) + 1) 1 = true := by decide +kernel
  exact key n (Nat.lt_succ_of_le h)
theorem range_size (n : Nat) : Builtin.Range.rangeSize 1 ((n : Int) + 1) 1 = ((n : Nat) : Int) := by
  unfold Builtin.Range.rangeSize; simp; omega
theorem num_turn {es : List (Str × Nat)} {fs : List (List Str)} (H : EsOk es fs) {ns : List Str} (ok : NamesOk ns) {b : Bool} {i : Nat} {stop : Int} (hb : b = true ↔ stop < (i : Int) + 1) :
    ∃ es' fs', ns.foldl (numStep b) (es, 0) = (es', dueN fs' ns) ∧ EsOk es' fs' ∧ ((i : Int) < stop → fs' = growI fs ns ns.length ∧ Met fs' ns) ∧ (¬ (i : Int) < stop → fs' = fs) := by
  by_cases h : (i : Int) < stop
  · have hf : b = false := by
      cases b
      · rfl
      · exact absurd (hb.mp rfl) (by omega)
    obtain ⟨es', h1, h2, h3⟩ := num_open H ok ns.length (Nat.le_refl _)
    rw [List.take_length] at h1 h3
    subst hf
    exact ⟨es', _, h1, h2, fun _ => ⟨rfl, h3⟩, fun q => absurd h q⟩
  · have hf : b = true := hb.mpr (by omega)
    obtain ⟨h1, h2⟩ := num_ice H ok ns.length (Nat.le_refl _)
    rw [List.take_length] at h1
    subst hf
    exact ⟨es, fs, h1, H, fun q => absurd q h, fun _ => rfl⟩
theorem keeps_way {h h' : Heap} {wa a : Addr} {o o' : Obj} (hw : h.get? wa = some o) (U : Under (hid h [(wa, o)]) h' [(a, o'), (wa, o)]) : Keeps h h' ∧ (h.get? a = none ∨ (a = wa ∧ o' = o)) ∧ h'.get? a = some o' := by
  have ha := U.at_ (a, o') (.head _)
  have hwa := U.at_ (wa, o) (.tail _ (.head _))
  refine ⟨fun b ob e => ?_, ?_, ha.1⟩
  · by_cases q : @Eq Nat b wa
    · subst q
      have e2 : o = ob := Option.some.inj (hw.symm.trans e)
      rw [← e2]; exact hwa.1
    · exact U.kg _ _ (hid_at e fun p hp => by rw [List.mem_singleton.mp hp]; exact fun e => q e.symm)
  · by_cases q : @Eq Nat a wa
    · subst q
      exact .inr ⟨rfl, Option.some.inj (ha.1.symm.trans hwa.1)⟩
    · refine .inl ?_
      cases e : h.get? a with
      | none => rfl
      | some o2 =>
        have := hid_at (l := [(wa, o)]) e fun p hp => by rw [List.mem_singleton.mp hp]; exact fun e => q e.symm
        rw [ha.2] at this; cases this
section
variable {g h h' : Heap} {L : Addr} {m : Str → Option Value} {C I b b' : List Row} {t s f w k t' s' f' w' : Row} {R Rn : List Row}
theorem blk_way {wa a : Addr} {o o' : Obj} (F : Fr g L h m) (N : News g L h (C :: I :: rest7 b t s f w k R).flatten) (P : (C :: I :: rest7 b t s f w k R).Pairwise Apart) (hR : (wa, o) ∈ R) (U : Under (hid h [(wa, o)]) h' [(a, o'), (wa, o)]) :
    ∃ R', Fr g L h' m ∧ News g L h' (C :: I :: rest7 b t s f w k R').flatten ∧ (C :: I :: rest7 b t s f w k R').Pairwise Apart ∧ (a, o') ∈ R' ∧ ∀ e ∈ R, e ∈ R' := by
  obtain ⟨kp, hn, ob⟩ := keeps_way (N _ (mem_R hR)).1 U
  rcases hn with hn | ⟨rfl, rfl⟩
  · obtain ⟨F1, N1, P1⟩ := blk_r F N P kp hn ob
    exact ⟨_, F1, N1, P1, List.mem_append_right _ (.head _), fun e he => List.mem_append_left _ he⟩
  · exact ⟨R, F.keeps kp, N.keeps kp, P, hR, fun e he => he⟩
end
theorem intsAre_snoc : ∀ {vs : List Value} {ks : List Int} (k : Int) (t : Tok), IntsAre vs ks → IntsAre (vs ++ [.int k t]) (ks ++ [k])
  | _, _, k, t, .nil => .cons k t .nil
  | _, _, k, t, .cons a b h => .cons a b (intsAre_snoc k t h)
theorem intsAre_len {vs : List Value} {ys : List Int} (h : IntsAre vs ys) : vs.length = ys.length := by
  induction h with
  | nil => rfl
  | cons _ _ _ ih => simp [ih]
theorem datIn_way {R : List Row} {a : Addr} {us : List Value} {n : Nat} {ns : List Str} (hm : (a, listOf us.toArray n) ∈ R) (hu : StrsAre us ns) : DatIn R (.ref a) (pD ns) := .list hm (datAll_ss hu)
theorem grow_len {fs : List (List Str)} {ns : List Str} {n : Nat} : (growI fs ns n).length ≤ fs.length + n := by
  unfold growI
  rw [List.length_append]
  refine Nat.add_le_add_left (Nat.le_trans (List.length_filter_le _ _) ?_) _
  simp
theorem grow_mem {fs : List (List Str)} {ns : List Str} {n : Nat} {q : List Str} (h : q ∈ growI fs ns n) : q ∈ fs ∨ ∃ j, q = ns.take j := by
  unfold growI at h
  rcases List.mem_append.mp h with h | h
  · exact .inl h
  · obtain ⟨j, _, e⟩ := List.mem_map.mp (List.mem_filter.mp h).1
    exact .inr ⟨j, e.symm⟩
theorem grow_app {fs : List (List Str)} {ns : List Str} {n : Nat} : ∃ l, growI fs ns n = fs ++ l := ⟨_, rfl⟩
theorem pw_upd {pre post : List (List Row)} {a : Addr} {o o' : Obj} (P : (pre ++ [(a, o)] :: post).Pairwise Apart) : (pre ++ [(a, o')] :: post).Pairwise Apart := by
  rw [List.pairwise_append] at P ⊢
  have P2 := List.pairwise_cons.mp P.2.1
  refine ⟨P.1, List.pairwise_cons.mpr ⟨fun b hb p hp q hq => ?_, P2.2⟩, fun x hx b hb p hp q hq => ?_⟩
  · rw [List.mem_singleton.mp hp]; exact P2.1 b hb (a, o) (.head _) q hq
  · rcases List.mem_cons.mp hb with rfl | hb
    · rw [List.mem_singleton.mp hq]; exact P.2.2 x hx [(a, o)] (.head _) p hp (a, o) (.head _)
    · exact P.2.2 x hx b (.tail _ hb) p hp q hq
section
variable {prog : Program} {wd : World} {A : Around} {E : Value → Shared → Prop} {sh : Shared} {g : Heap} {L : Addr} {m : Str → Option Value} {C I b : List Row} {t s w k : Row} {R : List Row}
theorem ext_call {vs ws : List Value} {n n2 : Nat} {fA D : Addr} {Q : Value → Shared → Prop} (F : Fr g L sh.heap m) (N : News g L sh.heap (C :: I :: rest7 b t s (fA, listOf vs.toArray n) w k R).flatten) (P : (C :: I :: rest7 b t s (fA, listOf vs.toArray n) w k R).Pairwise Apart)
    (ND : News g L sh.heap [(D, listOf ws.toArray n2)]) (hD : @Ne Nat D fA) (hz : vs.length + ws.length ≤ 1000000)
    (h : ∀ h' n', Fr g L h' m → News g L h' (C :: I :: rest7 b t s (fA, listOf (vs ++ ws).toArray n') w k R).flatten → (C :: I :: rest7 b t s (fA, listOf (vs ++ ws).toArray n') w k R).Pairwise Apart → Q .none { sh with heap := h' }) :
    wpAny (model prog wd) A (call (.builtin "list.extend") [.ref fA, .ref D]) Q E sh := by
  have hap : ∀ q ∈ (C :: I :: b :: [t] :: [s] :: [w] :: [k] :: [R]).flatten, q.1 ≠ fA := by
    have P' := P
    rw [show (C :: I :: rest7 b t s (fA, PySem.W.listOf vs.toArray n) w k R) = [C, I, b, [t], [s]] ++ [(fA, PySem.W.listOf vs.toArray n)] :: [[w], [k], R] from rfl, List.pairwise_append] at P'
    have P2 := List.pairwise_cons.mp P'.2.1
    intro q hq
    obtain ⟨l, hl, hq⟩ := List.mem_flatten.mp hq
    have hl' : l ∈ [C, I, b, [t], [s]] ∨ l ∈ [[w], [k], R] := by
      simp only [List.mem_cons, List.not_mem_nil, or_false] at hl ⊢
      rcases hl with hl | hl | hl | hl | hl | hl | hl | hl <;> simp [hl]
    rcases hl' with hl' | hl'
    · exact P'.2.2 l hl' _ (.head _) q hq _ (.head _)
    · exact fun e => P2.1 l hl' _ (.head _) q hq e.symm
  have hin : ∀ o, ∀ q, q ∈ (C :: I :: rest7 b t s (fA, o) w k R).flatten ↔ q = (fA, o) ∨ q ∈ (C :: I :: b :: [t] :: [s] :: [w] :: [k] :: [R]).flatten := fun o q => by
    simp only [rest7, List.flatten_cons, List.flatten_nil, List.mem_append, List.mem_cons, List.not_mem_nil, or_false, List.append_nil]
    grind
  refine lextend (news := (fA, PySem.W.listOf vs.toArray n) :: (D, PySem.W.listOf ws.toArray n2) :: (C :: I :: b :: [t] :: [s] :: [w] :: [k] :: [R]).flatten) F (fun q hq => ?_) (.tail _ (.head _)) (.head fun q hq => ?_) hz (fun h' n' F' N' => h h' n' F' (fun q hq => N' q ?_) (pw_upd (pre := [C, I, b, [t], [s]]) (post := [[w], [k], R]) P))
  · rcases List.mem_cons.mp hq with rfl | hq
    · exact N _ ((hin _ _).mpr (.inl rfl))
    · rcases List.mem_cons.mp hq with rfl | hq
      · exact ND _ (.head _)
      · exact N _ ((hin _ _).mpr (.inr hq))
  · rcases List.mem_cons.mp hq with rfl | hq
    · exact hD
    · exact hap q hq
  · rcases (hin _ _).mp hq with rfl | hq
    · exact .head _
    · exact .tail _ (.tail _ hq)
end
/-- the beginnings that are new to the fronts, as far as i -/
noncomputable def newI (fs : List (List Str)) (ns : List Str) (i : Nat) : List (List Str) := ((List.range' 1 i).map fun j => ns.take j).filter fun p => decide (p ∉ fs)
theorem newI_succ (fs : List (List Str)) (ns : List Str) (i : Nat) : newI fs ns (i + 1) = if ns.take (i + 1) ∈ fs then newI fs ns i else newI fs ns i ++ [ns.take (i + 1)] := by
  unfold newI
  have e : List.range' 1 (i + 1) = List.range' 1 i ++ [i + 1] := by rw [List.range'_concat]; simp [Nat.add_comm]
  rw [e, List.map_append, List.filter_append]
  by_cases h : ns.take (i + 1) ∈ fs
  · rw [if_pos h]; simp [h]
  · rw [if_neg h]; simp [h]
theorem newI_len (fs : List (List Str)) (ns : List Str) (i : Nat) : (newI fs ns i).length ≤ i := by
  unfold newI
  refine Nat.le_trans (List.length_filter_le _ _) ?_
  simp
theorem growI_new (fs : List (List Str)) (ns : List Str) (i : Nat) : growI fs ns i = fs ++ newI fs ns i := rfl
theorem led_snoc {C I b : List Row} {t s f w k x : Row} {R : List Row} : (C :: I :: rest7 b t s f w k (R ++ [x])).flatten = (C :: I :: rest7 b t s f w k R).flatten ++ [x] := by simp [rest7]
theorem pw_snoc {C I b : List Row} {t s f w k x : Row} {R : List Row} (P : (C :: I :: rest7 b t s f w k R).Pairwise Apart) (h : ∀ e ∈ (C :: I :: rest7 b t s f w k R).flatten, @Ne Nat e.1 x.1) : (C :: I :: rest7 b t s f w k (R ++ [x])).Pairwise Apart := by
  rw [show (C :: I :: rest7 b t s f w k R) = [C, I, b, [t], [s], [f], [w], [k]] ++ [R] from rfl] at P h
  rw [show (C :: I :: rest7 b t s f w k (R ++ [x])) = [C, I, b, [t], [s], [f], [w], [k]] ++ [R ++ [x]] from rfl]
  rw [List.pairwise_append] at P ⊢
  refine ⟨P.1, List.pairwise_singleton _ _, fun b hb c hc => ?_⟩
  rw [List.mem_singleton.mp hc]
  refine (P.2.2 b hb R (.head _)).appR fun p hp q hq => ?_
  rw [List.mem_singleton.mp hq]
  exact h p (List.mem_flatten.mpr ⟨b, List.mem_append_left _ hb, hp⟩)
theorem off1_mem {D : Addr} : ∀ {l : List (Addr × Obj)}, LCg.Off1 D l → ∀ p ∈ l, p.1 ≠ D
  | [], _, _, h => nomatch h
  | _ :: _, x, p, h => by
    rcases List.mem_cons.mp h with rfl | h
    · exact x.1
    · exact off1_mem x.2 p h
theorem datAll_app {R : List Row} : ∀ {vs ws : List Value} {ds es : List Dat}, DatAll R vs ds → DatAll R ws es → DatAll R (vs ++ ws) (ds ++ es)
  | _, _, _, _, .nil, h => h
  | _, _, _, _, .cons a b, h => .cons a (datAll_app b h)
end
section
local macro_rules | `(tactic| walk_at "call ref") => `(tactic| (k_here; refine stop ?_))
local macro_rules | `(tactic| walk_at "StarOf ref") => `(tactic| (k_here; refine stop ?_))
local macro_rules | `(tactic| walk_at "call builtin:list.append") => `(tactic| (k_here; refine stop ?_))
local macro_rules | `(tactic| walk_at "getMethod ref") => `(tactic| (k_here; refine stop ?_))
local macro_rules | `(tactic| walk_at "subscriptTail Name Name ref int") => `(tactic| (k_here; refine stop ?_))
local macro_rules | `(tactic| walk_at "storeName") => `(tactic| ((with_reducible show wpAny _ _ (storeName _ (Str.ofString "way") _) _ _ _); refine stop ?_))
local macro_rules | `(tactic| walk_at "CompEnd") => `(tactic| (refine stop ?_))
local macro_rules | `(tactic| walk_at "call builtin:list.extend") => `(tactic| (k_here; refine stop ?_))
local macro_rules | `(tactic| walk_at "eval ListComp") => `(tactic| (k_here; refine stop ?_))
local macro_rules | `(tactic| walk_at "call builtin:len") => `(tactic| (k_here; refine stop ?_))
local macro_rules | `(tactic| walk_at "subscriptTail Name Slice ref ref") => `(tactic| (k_here; refine stop ?_))
local macro_rules | `(tactic| walk_at "compareOp NotIn ref ref") => `(tactic| (k_here; refine stop ?_))
local macro_rules | `(tactic| walk_at "CompSrcT") => `(tactic| (refine stop ?_))
local macro_rules | `(tactic| walk_at "CompSrc") => `(tactic| (refine stop ?_))
section
theorem lit_for6 {K : Frag} {f : Addr} {P : List Stmt → Str → Scope → Prop} {oc od an osl name qual params a1 a2 a3 a4 a5 tg ite fb oe ps rest scope dV kV doc pm cdv ct}
    {oc' od' an' osl' name' qual' params' a1' a2' a3' a4' a5' tg' ite' fb' oe' ps' rest' scope' dV' kV' doc' pm' cdv' ct'}
    (h1 : K.lookup f = some ⟨oc, od, .func (fnOf name qual params (a1 :: a2 :: a3 :: a4 :: a5 :: .For tg ite fb oe ps :: rest) scope dV kV doc pm an cdv ct), osl⟩)
    (h2 : K.lookup f = some ⟨oc', od', .func (fnOf name' qual' params' (a1' :: a2' :: a3' :: a4' :: a5' :: .For tg' ite' fb' oe' ps' :: rest') scope' dV' kV' doc' pm' an' cdv' ct'), osl'⟩)
    (h : P fb' qual' scope') : P fb qual scope := by
  have e := Option.some.inj (h1.symm.trans h2)
  injection e with _ _ e3 _
  injection e3 with e4
  have b1 := congrArg FuncData.body e4
  have b2 : qual = qual' := congrArg FuncData.qualname e4
  have b3 : scope = scope' := congrArg FuncData.scope e4
  simp only [fnOf, FuncBody.stmts.injEq, List.cons.injEq, Stmt.For.injEq] at b1
  rw [b1.2.2.2.2.2.1.2.2.1, b2, b3]; exact h
noncomputable def Here (p : Prop) : Prop := p
theorem Here.intro {p : Prop} (h : p) : Here p := h
/-- the state of the law's loop -/
structure S1 where
  B : BK
  es : List (Str × Nat)
  fs : List (List Str)
  told : List Value
  tn : Nat
  spv : List Value
  sn : Nat
  sp : List (Str × List Str)
  fv : List Value
  fn : Nat
  wv : List Value
  wn : Nat
  wa : Addr
  wvs : List Value
  wun : Nat
  o2 : Obj
  ns : List Str
  r : Str
  R : List Row
  st : Tok
/-- the ways so far -/
noncomputable abbrev S1.ws (c : S1) : List (List Str) := c.sp.map (·.2)
noncomputable abbrev cells (L : Addr) (o1 o2 o3 : Obj) : List Row := [(L + 1, o1), (L + 1 + 1, o2), (L + 1 + 1 + 1, o3)]
theorem blk_c {g h h' : Heap} {L : Addr} {m : Str → Option Value} {I b : List Row} {t s f w k : Row} {R : List Row} {o1 o2 o3 o2' : Obj} (F : Fr g L h m) (N : News g L h (cells L o1 o2 o3 :: I :: rest7 b t s f w k R).flatten) (P : (cells L o1 o2 o3 :: I :: rest7 b t s f w k R).Pairwise Apart)
    (hs : Heap.SameBut (L + 1 + 1) h h') (ho : h'.get? (L + 1 + 1) = some o2') :
    Fr g L h' m ∧ News g L h' (cells L o1 o2' o3 :: I :: rest7 b t s f w k R).flatten ∧ (cells L o1 o2' o3 :: I :: rest7 b t s f w k R).Pairwise Apart := by
  have hm : ∀ e ∈ cells L o1 o2 o3, e ∈ (cells L o1 o2 o3 :: I :: rest7 b t s f w k R).flatten := fun e he => List.mem_flatten.mpr ⟨_, .head _, he⟩
  have a1 : @Ne Nat (L + 1) (L + 1 + 1) := Nat.ne_of_lt (Nat.lt_succ_self _)
  have a3 : @Ne Nat (L + 1 + 1 + 1) (L + 1 + 1) := Nat.ne_of_gt (Nat.lt_succ_self _)
  have U : Under (hid h (cells L o1 o2 o3)) h' (cells L o1 o2' o3) := ⟨fun d o e => by
      have hd : d ≠ L + 1 + 1 := fun q => by
        have : (hid h (cells L o1 o2 o3)).get? d = none := hideAll_none _ (by rw [q]; exact .tail _ (.head _))
        rw [this] at e; cases e
      exact (hs.2 d hd).trans (of_hideAll _ e),
    by rw [hideAll_size]; exact Nat.le_of_eq hs.1.symm, fun p hp => by
      simp only [cells, List.mem_cons, List.not_mem_nil, or_false] at hp
      rcases hp with rfl | rfl | rfl
      · exact ⟨(hs.2 _ a1).trans (N (L + 1, o1) (hm _ (.head _))).1, hideAll_none _ (.head _)⟩
      · exact ⟨ho, hideAll_none _ (.tail _ (.head _))⟩
      · exact ⟨(hs.2 _ a3).trans (N (L + 1 + 1 + 1, o3) (hm _ (.tail _ (.tail _ (.head _))))).1, hideAll_none _ (.tail _ (.tail _ (.head _)))⟩⟩
  have := blk (pre := []) (l := cells L o1 o2 o3) (l1 := cells L o1 o2' o3) (R := R) (Rn := []) (post := [I, b, [t], [s], [f], [w], [k]]) F N P (by rw [List.append_nil]; exact U) (fun p hp q hq => nomatch hq)
  rw [List.append_nil R] at this; exact this
noncomputable def S1.rest (c : S1) (w : World) (pm : Value) (tA sA fA wA cA : Addr) (cs : Obj) : List (List Row) :=
  rest7 (c.B.objs w pm) (tA, listOf c.told.toArray c.tn) (sA, listOf c.spv.toArray c.sn) (fA, listOf c.fv.toArray c.fn) (wA, listOf c.wv.toArray c.wn) (cA, cs) c.R
structure S1Ok (i : Nat) (f stop : Int) (c : S1) (x0 : Addr) : Prop where
  bk : BKOk c.B
  x : c.B.x = x0
  ka : KA c.B.kids c.es
  eo : EsOk c.es c.fs
  a3f : ∀ q ∈ c.fs, A3 q ∧ q.length ≤ 60
  fl : c.fs.length ≤ 52 * i
  a3 : A3 c.ns
  nl : c.ns.length ≤ 4 * i
  rok : RootOk c.r
  told : IntsAre c.told (c.ws.map fun n => (dueN c.fs n : Int))
  spots : StrsAre c.spv (c.sp.map fun p => pathR p.1 p.2)
  spr : ∀ p ∈ c.sp, RootOk p.1 ∧ A3 p.2 ∧ p.2.length ≤ 60
  fv : DatAll c.R c.fv (c.fs.map pD)
  wv : DatAll c.R c.wv (c.ws.map pD)
  way : (c.wa, listOf c.wvs.toArray c.wun) ∈ c.R
  wvs : StrsAre c.wvs c.ns
  cell : c.o2.data = .cell (some (.ref c.wa))
  len : c.sp.length = i
  met : (i : Int) ≤ stop → ∀ p ∈ c.sp, Met c.fs p.2
  fz : c.B.fz.isSome = true ↔ stop < f
  tab : ∃ ps, ((193 : Addr), tabObj ps) ∈ c.R
theorem toStop {p : Prop} (h : p) : Stop p := h
theorem kqd_pD {q : List Str} (h : ∀ y ∈ q, PyData.strOk y = true) : kqdOk 8 (pD q) = true := by
  show (q.map Dat.str).all (kqdOk 7) = true
  rw [List.all_eq_true]
  intro x hx
  obtain ⟨y, hy, rfl⟩ := List.mem_map.mp hx
  exact h y hy
noncomputable def S1.turn (c : S1) (B : BK) (es : List (Str × Nat)) (fs : List (List Str)) (tv : Tok) (fv : List Value) (fn : Nat) (a : Addr) (us : List Value) (un : Nat) (o2 : Obj) (ns : List Str) (r : Str) (R : List Row) (st : Tok) : S1 :=
  { B := B, es := es, fs := fs, told := c.told ++ [.int ((dueN fs ns : Nat) : Int) tv], tn := c.tn + 1, spv := c.spv ++ [.str (pathR r ns) st], sn := c.sn + 1, sp := c.sp ++ [(r, ns)], fv := fv, fn := fn, wv := c.wv ++ [.ref a], wn := c.wn + 1, wa := a, wvs := us, wun := un, o2 := o2, ns := ns, r := r, R := R, st := st }
theorem s1_turn {i : Nat} {stop : Int} {c : S1} {x0 : Addr} {kids : List Kid} {kn : Nat} {es : List (Str × Nat)} {fs : List (List Str)} {tv : Tok} {fv : List Value} {fn : Nat} {a : Addr} {us : List Value} {un : Nat} {o2 : Obj} {ns : List Str} {r : Str} {R : List Row} {st : Tok}
    (H : S1Ok i ((i : Int) + 1) stop c x0) (hi : i < 13) (hkl : kids.length ≤ 1000) (hka : KA kids es) (heo : EsOk es fs) (hop : (i : Int) < stop → fs = growI c.fs ns ns.length ∧ Met fs ns) (hice : ¬ (i : Int) < stop → fs = c.fs)
    (ha3 : A3 ns) (hl : ns.length ≤ c.ns.length + 4) (hr : RootOk r) (hfv : DatAll R fv (fs.map pD)) (hRR : ∀ e ∈ c.R, e ∈ R) (hw : (a, PySem.W.listOf us.toArray un) ∈ R) (hus : StrsAre us ns) (hc : o2.data = .cell (some (.ref a))) :
    S1Ok (i + 1) ((i + 1 : Nat) : Int) stop (c.turn { c.B with kids := kids, n := kn } es fs tv fv fn a us un o2 ns r R st) x0 := by
  have hnl := H.nl
  have hfl := H.fl
  have hgl := grow_len (fs := c.fs) (ns := ns) (n := ns.length)
  have hdue : c.ws.map (fun n => (dueN fs n : Int)) = c.ws.map fun n => (dueN c.fs n : Int) := by
    by_cases h : (i : Int) < stop
    · refine List.map_congr_left fun n hn => ?_
      obtain ⟨p, hp, rfl⟩ := List.mem_map.mp hn
      obtain ⟨l, e⟩ := grow_app (fs := c.fs) (ns := ns) (n := ns.length)
      rw [(hop h).1, e, due_app (H.met (Int.le_of_lt h) p hp)]
    · rw [hice h]
  refine ⟨?_, H.x, hka, heo, fun q hq => ?_, ?_, ha3, ?_, hr, ?_, ?_, fun p hp => ?_, hfv, ?_, hw, hus, hc, ?_, fun hs p hp => ?_, ?_, H.tab.imp fun _ h => hRR _ h⟩
  · exact { H.bk with len := hkl }
  · by_cases h : (i : Int) < stop
    · rw [show (c.turn { c.B with kids := kids, n := kn } es fs tv fv fn a us un o2 ns r R st).fs = fs from rfl, (hop h).1] at hq
      rcases grow_mem hq with hq | ⟨j, rfl⟩
      · exact H.a3f q hq
      · exact ⟨a3_take ha3 j, by rw [List.length_take]; omega⟩
    · exact H.a3f q (by rw [← hice h]; exact hq)
  · show fs.length ≤ 52 * (i + 1)
    by_cases h : (i : Int) < stop
    · rw [(hop h).1]; omega
    · rw [hice h]; omega
  · show ns.length ≤ 4 * (i + 1)
    omega
  · show IntsAre (c.told ++ [_]) (((c.sp ++ [(r, ns)]).map (·.2)).map fun n => (dueN fs n : Int))
    rw [List.map_append, List.map_append, show (c.sp.map (·.2)).map (fun n => (dueN fs n : Int)) = _ from hdue]
    exact intsAre_snoc _ _ H.told
  · show StrsAre (c.spv ++ [_]) ((c.sp ++ [(r, ns)]).map fun p => pathR p.1 p.2)
    rw [List.map_append]
    exact strsAre_snoc H.spots _ _
  · rcases List.mem_append.mp hp with hp | hp
    · exact H.spr p hp
    · rw [List.mem_singleton.mp hp]; exact ⟨hr, ha3, by show ns.length ≤ 60; omega⟩
  · show DatAll R (c.wv ++ [_]) (((c.sp ++ [(r, ns)]).map (·.2)).map pD)
    rw [List.map_append, List.map_append]
    exact datAll_snoc (H.wv.mono hRR) (datIn_way hw hus)
  · show (c.sp ++ [(r, ns)]).length = i + 1
    rw [List.length_append, H.len]; rfl
  · have h : (i : Int) < stop := by omega
    obtain ⟨l, e⟩ := grow_app (fs := c.fs) (ns := ns) (n := ns.length)
    show Met fs p.2
    rcases List.mem_append.mp hp with hp | hp
    · rw [(hop h).1, e]; exact (H.met (Int.le_of_lt h) p hp).app l
    · rw [List.mem_singleton.mp hp]; exact (hop h).2
  · show c.B.fz.isSome = true ↔ stop < ((i + 1 : Nat) : Int)
    rw [H.fz]; omega
noncomputable def S1.ps (c : S1) (stop : Int) (ts : Tok) (tA sA wA cA : Addr) : List (Str × Value) :=
  [(Str.ofString "spot", .str (pathR c.r c.ns) c.st), (Str.ofString "told", .ref tA), (Str.ofString "spots", .ref sA), (Str.ofString "ways", .ref wA), (Str.ofString "counts", .ref cA), (Str.ofString "stop", .int stop ts)]
theorem turn1_ct : ∀ {w : World} {dp un : Nat} {fr : Option (List Env)} {gd : Option (List Code)} {s : Shared} {Q : Flow → Shared → Prop} {E : Value → Shared → Prop} {c : S1} {i n m : Nat} {stop : Int} {t ts : Tok} {x0 tA sA fA wA cA I : Addr} {it o1 o3 : Obj} {u : Str → Option Value} {L fa : Addr} {cd : Value} {kvs : List Value} {ks : List Int} {kn : Nat}
   {p loose mean mg mb} {g : Heap} {oc od an osl name qual params a1 a2 a3 a4 a5 tg ite fb oe ps rest scope dV kV doc pm cdv ct}
   (hb : (K1 w.params).lookup 231 = some ⟨oc, od, .func (fnOf name qual params (a1 :: a2 :: a3 :: a4 :: a5 :: .For tg ite fb oe ps :: rest) scope dV kV doc pm an cdv ct), osl⟩)
   (X : (K1 w.params).In g) (TT : Top p loose mean mg mb g) (T : TopRead p loose mg mb g) (CH : CodeHd g 61 57)
   (F : Fr g L s.heap (fun y => if y = Str.ofString "k" then some (.int (i : Nat) t) else chain (c.ps stop ts tA sA wA cA) u y)) (N : News g L s.heap (cells L o1 c.o2 o3 :: [(I, it)] :: c.rest w ((mg "__name__").getD .none) tA sA fA wA cA (listOf kvs.toArray kn)).flatten) (P : (cells L o1 c.o2 o3 :: [(I, it)] :: c.rest w ((mg "__name__").getD .none) tA sA fA wA cA (listOf kvs.toArray kn)).Pairwise Apart)
   (h1 : o1.data = .cell (some (.ref x0))) (h3 : o3.data = .cell (some (.ref fA))) (hok : S1Ok i i stop c x0) (hi : i < m) (hm : m ≤ 13) (hk : IntsAre kvs ks) (hkl : ks.length = m) (hn : ks[i]? = some (n : Int)) (hn2 : n < 4096) (hs2 : 2 ≤ stop) (hs3 : stop ≤ 13) (hdp : dp + 250 < 1000) (hu : un + 2000 < 9900)
   (hQ : ∀ c' h' tk m', S1Ok (i + 1) (i + 1 : Nat) stop c' x0 → Fr g L h' m' → News g L h' (cells L o1 c'.o2 o3 :: [(I, it)] :: c'.rest w ((mg "__name__").getD .none) tA sA fA wA cA (listOf kvs.toArray kn)).flatten → (cells L o1 c'.o2 o3 :: [(I, it)] :: c'.rest w ((mg "__name__").getD .none) tA sA fA wA cA (listOf kvs.toArray kn)).Pairwise Apart → AllAt m' (c'.ps stop ts tA sA wA cA) → Q .next { s with heap := h', toks := tk })
   , wpAny (model PySem.Challenge.rw_il0142_01.row.prog w) ((Ar dp un fr gd).deeper (envOfC qual scope L fa cd)) (execs fb (envOfC qual scope L fa cd)) Q E s := by
  k_fill
  intro w dp un fr gd s Q E c i n m stop t ts x0 tA sA fA wA cA I it o1 o3 u L fa cd kvs ks kn p loose mean mg mb g oc od an osl name qual params a1 a2 a3 a4 a5 tg ite fb oe ps rest scope dV kV doc pm cdv ct hb X TT T CH F N P h1 h3 hok hi hm hk hkl hn hn2 hs2 hs3 hdp hu hQ
  refine' lit_for6 (P := fun b q sc => wpAny (model PySem.Challenge.rw_il0142_01.row.prog w) ((Ar dp un fr gd).deeper (envOfC q sc L fa cd)) (execs b (envOfC q sc L fa cd)) Q E s) hb ?lit ?_
  case lit => k_is
  clear hb
  try dsimp only
  dsimp only [chain, S1.ps] at F
  have h2 := hok.cell
  have N0 : News g L s.heap ((L + 1, o1) :: (L + 1 + 1, c.o2) :: (L + 1 + 1 + 1, o3) :: (I, it) :: (c.rest w ((mg "__name__").getD .none) tA sA fA wA cA (listOf kvs.toArray kn)).flatten) := N
  clear N
  try k_fold
  refine wpAny_execs_cons (PySem.wpAny_mono (Q := fun fl s' => Here (fl = .next ∧ ∃ B' h' tk', s' = { s with heap := h', toks := tk' } ∧ Fr g L h' (fun y => if y = Str.ofString "k" then some (.int (i : Nat) t) else chain (c.ps stop ts tA sA wA cA) u y) ∧
      News g L h' (cells L o1 c.o2 o3 :: [(I, it)] :: ({ c with B := B' } : S1).rest w ((mg "__name__").getD .none) tA sA fA wA cA (listOf kvs.toArray kn)).flatten ∧
      (cells L o1 c.o2 o3 :: [(I, it)] :: ({ c with B := B' } : S1).rest w ((mg "__name__").getD .none) tA sA fA wA cA (listOf kvs.toArray kn)).Pairwise Apart ∧
      BKOk B' ∧ B'.x = x0 ∧ B'.kids = c.B.kids ∧ (B'.fz.isSome = true ↔ stop ≤ i))) (E := fun _ _ => False) ?first (fun fl s' hh => ?_) (fun _ _ e => e.elim))
  case first =>
    obtain rfl := hok.x
    k_steps
    · unfold Stop
      rename Fr _ _ _ _ => F1
      rename News _ _ _ _ => N1
      have mS : ∀ e ∈ c.B.objs w ((mg "__name__").getD .none), e ∈ (cells L o1 c.o2 o3 :: [(I, it)] :: c.rest w ((mg "__name__").getD .none) tA sA fA wA cA (listOf kvs.toArray kn)).flatten := fun e he => List.mem_flatten.mpr ⟨_, .tail _ (.tail _ (.head _)), he⟩
      have H := (fr_under F1 N1 mS).hid fun p hp => hp
      have hbg : c.B.bag w = bag0 ∨ ∃ tk v, c.B.bag w = bagF w tk v := by
        unfold BK.bag; split
        · exact .inl rfl
        · exact .inr ⟨_, _, rfl⟩
      refine fold_freeze (X.keeps F1.keep) (N1 (c.B.x, c.B.fold w) (mS _ (.head _))).1 (N1 (c.B.dx, c.B.bag w) (mS _ (.tail _ (.head _)))).1 hbg ?_
      k_steps
      unfold Stop
      refine book_freeze (X.keeps H.2) (TT.keeps H.2) (CH.keeps H.2) H.1 hok.bk (by walk_at "my room") (by walk_at "my room") (fun z h' tk U' W' => ?_)
      obtain ⟨F2, N2, P2⟩ := blk (pre := [cells L o1 c.o2 o3, [(I, it)]]) (l := c.B.objs w ((mg "__name__").getD .none)) (l1 := ({ c.B with fz := some z } : BK).objs w ((mg "__name__").getD .none)) (R := c.R) (Rn := [])
        (post := [[(tA, PySem.W.listOf c.told.toArray c.tn)], [(sA, PySem.W.listOf c.spv.toArray c.sn)], [(fA, PySem.W.listOf c.fv.toArray c.fn)], [(wA, PySem.W.listOf c.wv.toArray c.wn)], [(cA, PySem.W.listOf kvs.toArray kn)]]) F1 N1 P (by rw [List.append_nil]; exact U') (fun p hp q hq => nomatch hq)
      rw [List.append_nil] at N2 P2
      k_steps
      exact Here.intro ⟨rfl, { c.B with fz := some z }, _, _, rfl, F2, N2, P2, W', rfl, rfl, ⟨fun _ => by omega, fun _ => rfl⟩⟩
    · have hne : ((i : Nat) : Int) ≠ stop := by assumption
      exact Here.intro ⟨rfl, c.B, _, _, rfl, F, N0, P, hok.bk, rfl, rfl, by rw [hok.fz]; omega⟩
  unfold Here at hh
  obtain ⟨rfl, B', h', tk', rfl, F1, N1, P1, W1, hx1, hk1, hf1⟩ := hh
  dsimp only
  clear F N0 P
  have hok1 : S1Ok i ((i : Int) + 1) stop ({ c with B := B' } : S1) x0 := { hok with bk := W1, x := hx1, ka := by rw [hk1]; exact hok.ka, fz := by rw [hf1]; omega }
  have F2 : Fr g L h' (fun y => if y = Str.ofString "k" then some (.int (i : Nat) t) else chain (({ c with B := B' } : S1).ps stop ts tA sA wA cA) u y) := F1
  have N2 : News g L h' (cells L o1 ({ c with B := B' } : S1).o2 o3 :: [(I, it)] :: ({ c with B := B' } : S1).rest w ((mg "__name__").getD .none) tA sA fA wA cA (PySem.W.listOf kvs.toArray kn)).flatten := N1
  have P2 : (cells L o1 ({ c with B := B' } : S1).o2 o3 :: [(I, it)] :: ({ c with B := B' } : S1).rest w ((mg "__name__").getD .none) tA sA fA wA cA (PySem.W.listOf kvs.toArray kn)).Pairwise Apart := P1
  clear F1 N1 P1 hok h2 W1 hx1 hk1 hf1
  generalize ({ c with B := B' } : S1) = c1 at F2 N2 P2 hok1
  clear c B'
  dsimp only [chain, S1.ps] at F2
  have N3 : News g L h' ((L + 1, o1) :: (L + 1 + 1, c1.o2) :: (L + 1 + 1 + 1, o3) :: (I, it) :: (c1.rest w ((mg "__name__").getD .none) tA sA fA wA cA (PySem.W.listOf kvs.toArray kn)).flatten) := N2
  clear N2
  have h2 := hok1.cell
  k_steps
  unfold Stop
  rename Fr _ _ _ _ => F1
  rename News _ _ _ _ => N1
  have mC : (cA, PySem.W.listOf kvs.toArray kn) ∈ (cells L o1 c1.o2 o3 :: [(I, it)] :: c1.rest w ((mg "__name__").getD .none) tA sA fA wA cA (PySem.W.listOf kvs.toArray kn)).flatten := List.mem_flatten.mpr ⟨[(cA, PySem.W.listOf kvs.toArray kn)], by simp [S1.rest], .head _⟩
  have hil : i < ks.length := by omega
  have hval : ks.getD ((i : Nat) : Int).toNat 0 = (n : Int) := by rw [Int.toNat_natCast, List.getD_eq_getElem?_getD, hn]; rfl
  refine item_list_ints (ns := ks) ⟨_, (N1 _ mC).1, rfl, kn, rfl⟩ hk (by omega) (by omega) (by omega) (fun t' => ?_)
  rw [hval]
  have hst := steps_w1 n
  have hsl := steps_len1 hn2
  have hsum := w1_sum _ hst
  obtain ⟨r', hr', sp1, sp2, sp3⟩ := spot1 hok1.rok hok1.a3 hst
  obtain ⟨_, ha3, hl3⟩ := lawSteps_w1 _ hok1.a3 hst
  have hnl := hok1.nl
  have hpl := ac_len hok1.rok hok1.a3.ac
  have hpl2 := ac_len hr' ha3.ac
  have hjl := foldJoin_len (stepsS1 n) (pathR c1.r c1.ns)
  k_steps
  unfold Stop
  rename Fr _ _ _ _ => F1
  rename News _ _ _ _ => N1
  refine steps_ct (X.keeps F1.keep) (T.keeps F1.keep) (by walk_at "my room") (by walk_at "my room") hn2 (fun a us uq h1' tk1 k1 fr1 ob1 hus => ?_)
  have F2 := F1.keeps k1
  have N2 := news_add k1 fr1 ob1 F1 N1
  have hul := strsAre_len hus
  refine star_seq (its := us.toArray) (ws := us) F2 N2 (.head _) rfl rfl (.inl rfl) rfl (by rw [List.size_toArray, sizeLine_eq]; omega) (fun h2' F3 N3 => ?_)
  have N4 : News g L h2' ((L + 1, o1) :: (L + 1 + 1, c1.o2) :: (L + 1 + 1 + 1, o3) :: (I, it) :: (c1.rest w ((mg "__name__").getD .none) tA sA fA wA cA (PySem.W.listOf kvs.toArray kn)).flatten) := fun e he => N3 e (.tail _ he)
  clear F1 F2 N1 N2 N3 k1 fr1 ob1
  k_steps
  unfold Stop
  rename Fr _ _ _ _ => F1
  rename News _ _ _ _ => N1
  rw [List.append_nil]
  refine join_ct (X.keeps F1.keep) (T.keeps F1.keep) (by walk_at "my room") (by walk_at "my room") hus (by omega) (fun t1 h3' tk2 k2 => ?_)
  have F2 := F1.keeps k2
  have N2 := N1.keeps k2
  clear F1 N1 k2
  k_steps
  unfold Stop
  rename Fr _ _ _ _ => F1
  rename News _ _ _ _ => N1
  refine normpath_ct (X.keeps F1.keep) (T.keeps F1.keep) (by walk_at "my room") (by walk_at "my room") (by omega) sp3 sp2 (fun t3 h4 tk3 k3 => ?_)
  rw [sp1]
  have F2 := F1.keeps k3
  have N2 := N1.keeps k3
  clear F1 N1 k3 hul hus
  k_steps
  unfold Stop
  rename Fr _ _ _ _ => F1
  rename News _ _ _ _ => N0
  have hspl := strsAre_len hok1.spots
  have htol := intsAre_len hok1.told
  have hwvl := datAll_len hok1.wv
  have hlen := hok1.len
  have hfl := hok1.fl
  rw [List.length_map] at hspl htol hwvl
  unfold S1.ws at htol hwvl
  rw [List.length_map] at htol hwvl
  have N3 : News g L _ (cells L o1 c1.o2 o3 :: [(I, it)] :: rest7 (c1.B.objs w ((mg "__name__").getD .none)) (tA, PySem.W.listOf c1.told.toArray c1.tn) (sA, PySem.W.listOf c1.spv.toArray c1.sn) (fA, PySem.W.listOf c1.fv.toArray c1.fn) (wA, PySem.W.listOf c1.wv.toArray c1.wn) (cA, PySem.W.listOf kvs.toArray kn) c1.R).flatten := N0
  have P3 : (cells L o1 c1.o2 o3 :: [(I, it)] :: rest7 (c1.B.objs w ((mg "__name__").getD .none)) (tA, PySem.W.listOf c1.told.toArray c1.tn) (sA, PySem.W.listOf c1.spv.toArray c1.sn) (fA, PySem.W.listOf c1.fv.toArray c1.fn) (wA, PySem.W.listOf c1.wv.toArray c1.wn) (cA, PySem.W.listOf kvs.toArray kn) c1.R).Pairwise Apart := P2
  clear P2
  refine getMethod_list_append (News.get N3 mem_s) rfl rfl ?_
  clear N3
  k_steps
  unfold Stop
  rename Fr _ _ _ _ => F1
  rename News _ _ _ _ => N0
  have N1 : News g L _ (cells L o1 c1.o2 o3 :: [(I, it)] :: rest7 (c1.B.objs w ((mg "__name__").getD .none)) (tA, PySem.W.listOf c1.told.toArray c1.tn) (sA, PySem.W.listOf c1.spv.toArray c1.sn) (fA, PySem.W.listOf c1.fv.toArray c1.fn) (wA, PySem.W.listOf c1.wv.toArray c1.wn) (cA, PySem.W.listOf kvs.toArray kn) c1.R).flatten := N0
  clear N0
  refine happend (News.get N1 mem_s) (by omega) (fun h5 U5 => ?_)
  obtain ⟨F2, N2, P4⟩ := blk_s F1 N1 P3 U5
  have N3 : News g L h5 ((L + 1, o1) :: (L + 1 + 1, c1.o2) :: (L + 1 + 1 + 1, o3) :: (I, it) :: (rest7 (c1.B.objs w ((mg "__name__").getD .none)) (tA, PySem.W.listOf c1.told.toArray c1.tn) (sA, PySem.W.listOf (c1.spv ++ [Value.str (pathR r' (List.foldl lawStep1 c1.ns (stepsS1 n))) t3]).toArray (c1.sn + 1)) (fA, PySem.W.listOf c1.fv.toArray c1.fn) (wA, PySem.W.listOf c1.wv.toArray c1.wn) (cA, PySem.W.listOf kvs.toArray kn) c1.R).flatten) := N2
  clear F1 N1 P3 U5 N2
  k_steps
  unfold Stop
  rename Fr _ _ _ _ => F1
  rename News _ _ _ _ => N0
  have N1 : News g L _ (cells L o1 c1.o2 o3 :: [(I, it)] :: rest7 (c1.B.objs w ((mg "__name__").getD .none)) (tA, PySem.W.listOf c1.told.toArray c1.tn) (sA, PySem.W.listOf (c1.spv ++ [Value.str (pathR r' (List.foldl lawStep1 c1.ns (stepsS1 n))) t3]).toArray (c1.sn + 1)) (fA, PySem.W.listOf c1.fv.toArray c1.fn) (wA, PySem.W.listOf c1.wv.toArray c1.wn) (cA, PySem.W.listOf kvs.toArray kn) c1.R).flatten := N0
  clear N0
  refine getMethod_list_append (News.get N1 mem_t) rfl rfl ?_
  have N3 : News g L _ ((L + 1, o1) :: (L + 1 + 1, c1.o2) :: (L + 1 + 1 + 1, o3) :: (I, it) :: (rest7 (c1.B.objs w ((mg "__name__").getD .none)) (tA, PySem.W.listOf c1.told.toArray c1.tn) (sA, PySem.W.listOf (c1.spv ++ [Value.str (pathR r' (List.foldl lawStep1 c1.ns (stepsS1 n))) t3]).toArray (c1.sn + 1)) (fA, PySem.W.listOf c1.fv.toArray c1.fn) (wA, PySem.W.listOf c1.wv.toArray c1.wn) (cA, PySem.W.listOf kvs.toArray kn) c1.R).flatten) := N1
  clear N1
  k_steps
  unfold Stop
  rename Fr _ _ _ _ => F1
  rename News _ _ _ _ => N0
  have N1 : News g L _ (cells L o1 c1.o2 o3 :: [(I, it)] :: rest7 (c1.B.objs w ((mg "__name__").getD .none)) (tA, PySem.W.listOf c1.told.toArray c1.tn) (sA, PySem.W.listOf (c1.spv ++ [Value.str (pathR r' (List.foldl lawStep1 c1.ns (stepsS1 n))) t3]).toArray (c1.sn + 1)) (fA, PySem.W.listOf c1.fv.toArray c1.fn) (wA, PySem.W.listOf c1.wv.toArray c1.wn) (cA, PySem.W.listOf kvs.toArray kn) c1.R).flatten := N0
  clear N0
  have hbd : ∀ e ∈ c1.es, e.2 ≤ 2000 := fun e he => by
    obtain ⟨_, _, _, _, _, _, _, h7⟩ := hok1.eo.mem he
    omega
  have hesl := hok1.eo.len
  obtain ⟨es', fs', hnum, heo', hop, hice⟩ := num_turn hok1.eo (ac_ok ha3.ac) (b := c1.B.fz.isSome) (i := i) (stop := stop) hok1.fz
  have H := (fr_under F1 N1 (fun p hp => mem_b hp)).hid fun p hp => hp
  have hyl : ∀ y ∈ (List.foldl lawStep1 c1.ns (stepsS1 n)), y.length ≤ 1000 := fun y hy => Nat.le_trans (ac_len1 ha3.ac y hy) (by decide)
  obtain rfl := hok1.x
  refine number_ct (X.keeps H.2) (T.keeps H.2) H.1 hok1.bk (by walk_at "my room") (by walk_at "my room") hr' (ac_ok ha3.ac) (by omega) hok1.ka (by omega) hbd hyl (fun kids' n' t' h6 tk6 hka' hkl' U6 => ?_)
  rw [hnum] at hka' ⊢
  obtain ⟨F2, N2, P5⟩ := blk_b F1 N1 P4 U6
  have N3 : News g L h6 ((L + 1, o1) :: (L + 1 + 1, c1.o2) :: (L + 1 + 1 + 1, o3) :: (I, it) :: (rest7 (({ c1.B with kids := kids', n := n' } : BK).objs w ((mg "__name__").getD .none)) (tA, PySem.W.listOf c1.told.toArray c1.tn) (sA, PySem.W.listOf (c1.spv ++ [Value.str (pathR r' (List.foldl lawStep1 c1.ns (stepsS1 n))) t3]).toArray (c1.sn + 1)) (fA, PySem.W.listOf c1.fv.toArray c1.fn) (wA, PySem.W.listOf c1.wv.toArray c1.wn) (cA, PySem.W.listOf kvs.toArray kn) c1.R).flatten) := N2
  clear F1 N1 P4 U6 N2
  clear H
  k_steps
  unfold Stop
  rename Fr _ _ _ _ => F1
  rename News _ _ _ _ => N0
  have N1 : News g L _ (cells L o1 c1.o2 o3 :: [(I, it)] :: rest7 (({ c1.B with kids := kids', n := n' } : BK).objs w ((mg "__name__").getD .none)) (tA, PySem.W.listOf c1.told.toArray c1.tn) (sA, PySem.W.listOf (c1.spv ++ [Value.str (pathR r' (List.foldl lawStep1 c1.ns (stepsS1 n))) t3]).toArray (c1.sn + 1)) (fA, PySem.W.listOf c1.fv.toArray c1.fn) (wA, PySem.W.listOf c1.wv.toArray c1.wn) (cA, PySem.W.listOf kvs.toArray kn) c1.R).flatten := N0
  clear N0
  refine happend (News.get N1 mem_t) (by omega) (fun h7 U7 => ?_)
  obtain ⟨F2, N2, P6⟩ := blk_t F1 N1 P5 U7
  have N3 : News g L h7 ((L + 1, o1) :: (L + 1 + 1, c1.o2) :: (L + 1 + 1 + 1, o3) :: (I, it) :: (rest7 (({ c1.B with kids := kids', n := n' } : BK).objs w ((mg "__name__").getD .none)) (tA, PySem.W.listOf (c1.told ++ [Value.int ((dueN fs' (List.foldl lawStep1 c1.ns (stepsS1 n)) : Nat) : Int) t']).toArray (c1.tn + 1)) (sA, PySem.W.listOf (c1.spv ++ [Value.str (pathR r' (List.foldl lawStep1 c1.ns (stepsS1 n))) t3]).toArray (c1.sn + 1)) (fA, PySem.W.listOf c1.fv.toArray c1.fn) (wA, PySem.W.listOf c1.wv.toArray c1.wn) (cA, PySem.W.listOf kvs.toArray kn) c1.R).flatten) := N2
  clear F1 N1 P5 U7 N2
  k_steps
  unfold Stop
  rename Fr _ _ _ _ => F1
  rename News _ _ _ _ => N0
  have N1 : News g L _ (cells L o1 c1.o2 o3 :: [(I, it)] :: rest7 (({ c1.B with kids := kids', n := n' } : BK).objs w ((mg "__name__").getD .none)) (tA, PySem.W.listOf (c1.told ++ [Value.int ((dueN fs' (List.foldl lawStep1 c1.ns (stepsS1 n)) : Nat) : Int) t']).toArray (c1.tn + 1)) (sA, PySem.W.listOf (c1.spv ++ [Value.str (pathR r' (List.foldl lawStep1 c1.ns (stepsS1 n))) t3]).toArray (c1.sn + 1)) (fA, PySem.W.listOf c1.fv.toArray c1.fn) (wA, PySem.W.listOf c1.wv.toArray c1.wn) (cA, PySem.W.listOf kvs.toArray kn) c1.R).flatten := N0
  clear N0
  refine item_list_ints (ns := ks) ⟨_, (N1 _ mem_k).1, rfl, kn, rfl⟩ hk (by omega) (by omega) (by omega) (fun t9 => ?_)
  rw [hval]
  have N3 : News g L _ ((L + 1, o1) :: (L + 1 + 1, c1.o2) :: (L + 1 + 1 + 1, o3) :: (I, it) :: (rest7 (({ c1.B with kids := kids', n := n' } : BK).objs w ((mg "__name__").getD .none)) (tA, PySem.W.listOf (c1.told ++ [Value.int ((dueN fs' (List.foldl lawStep1 c1.ns (stepsS1 n)) : Nat) : Int) t']).toArray (c1.tn + 1)) (sA, PySem.W.listOf (c1.spv ++ [Value.str (pathR r' (List.foldl lawStep1 c1.ns (stepsS1 n))) t3]).toArray (c1.sn + 1)) (fA, PySem.W.listOf c1.fv.toArray c1.fn) (wA, PySem.W.listOf c1.wv.toArray c1.wn) (cA, PySem.W.listOf kvs.toArray kn) c1.R).flatten) := N1
  clear N1
  k_steps
  unfold Stop
  rename Fr _ _ _ _ => F1
  rename News _ _ _ _ => N0
  have N1 : News g L _ (cells L o1 c1.o2 o3 :: [(I, it)] :: rest7 (({ c1.B with kids := kids', n := n' } : BK).objs w ((mg "__name__").getD .none)) (tA, PySem.W.listOf (c1.told ++ [Value.int ((dueN fs' (List.foldl lawStep1 c1.ns (stepsS1 n)) : Nat) : Int) t']).toArray (c1.tn + 1)) (sA, PySem.W.listOf (c1.spv ++ [Value.str (pathR r' (List.foldl lawStep1 c1.ns (stepsS1 n))) t3]).toArray (c1.sn + 1)) (fA, PySem.W.listOf c1.fv.toArray c1.fn) (wA, PySem.W.listOf c1.wv.toArray c1.wn) (cA, PySem.W.listOf kvs.toArray kn) c1.R).flatten := N0
  clear N0
  refine steps_ct (X.keeps F1.keep) (T.keeps F1.keep) (by walk_at "my room") (by walk_at "my room") hn2 (fun a us uq h8 tk8 k8 fr8 ob8 hus => ?_)
  have F2 := F1.keeps k8
  have N2 := N1.keeps k8
  have hwa : @Ne Nat c1.wa a := fun e => by
    have := (N1 _ (mem_R hok1.way)).1
    rw [show c1.wa = a from e, fr8] at this; cases this
  clear F1 fr8 N1 k8
  have N3 : News g L h8 ((L + 1, o1) :: (L + 1 + 1, c1.o2) :: (L + 1 + 1 + 1, o3) :: (I, it) :: (rest7 (({ c1.B with kids := kids', n := n' } : BK).objs w ((mg "__name__").getD .none)) (tA, PySem.W.listOf (c1.told ++ [Value.int ((dueN fs' (List.foldl lawStep1 c1.ns (stepsS1 n)) : Nat) : Int) t']).toArray (c1.tn + 1)) (sA, PySem.W.listOf (c1.spv ++ [Value.str (pathR r' (List.foldl lawStep1 c1.ns (stepsS1 n))) t3]).toArray (c1.sn + 1)) (fA, PySem.W.listOf c1.fv.toArray c1.fn) (wA, PySem.W.listOf c1.wv.toArray c1.wn) (cA, PySem.W.listOf kvs.toArray kn) c1.R).flatten) := N2
  clear N2
  k_steps
  unfold Stop
  rename Fr _ _ _ _ => F1
  rename News _ _ _ _ => N0
  have N1 : News g L _ (cells L o1 c1.o2 o3 :: [(I, it)] :: rest7 (({ c1.B with kids := kids', n := n' } : BK).objs w ((mg "__name__").getD .none)) (tA, PySem.W.listOf (c1.told ++ [Value.int ((dueN fs' (List.foldl lawStep1 c1.ns (stepsS1 n)) : Nat) : Int) t']).toArray (c1.tn + 1)) (sA, PySem.W.listOf (c1.spv ++ [Value.str (pathR r' (List.foldl lawStep1 c1.ns (stepsS1 n))) t3]).toArray (c1.sn + 1)) (fA, PySem.W.listOf c1.fv.toArray c1.fn) (wA, PySem.W.listOf c1.wv.toArray c1.wn) (cA, PySem.W.listOf kvs.toArray kn) c1.R).flatten := N0
  clear N0
  have hwl := strsAre_len hok1.wvs
  have hbl : ∀ b ∈ stepsS1 n, b.length ≤ 1000 := fun b hb => Nat.le_trans (w1_len (hst b hb)) (by decide)
  have H := (fr_under (l := [(c1.wa, PySem.W.listOf c1.wvs.toArray c1.wun)]) F1 N1 fun p hp => by rw [List.mem_singleton.mp hp]; exact mem_R hok1.way).hid fun p hp => hp
  refine names_ct1 (ns := c1.ns) (bs := stepsS1 n) (sn := uq) (vs := c1.wvs) (ws := us) (nn := c1.wun) (X.keeps H.2) (T.keeps H.2) H.1 (by walk_at "my room") (by walk_at "my room") (hid_at ob8 fun p hp => by rw [List.mem_singleton.mp hp]; exact hwa) hus hok1.wvs (by omega) hbl (fun a2 us2 uq2 h9 tk9 U9 hus2 => ?_)
  obtain ⟨R', F2, N2, P7, hmw, hRR⟩ := blk_way F1 N1 P6 hok1.way U9
  have N3 : News g L h9 ((L + 1, o1) :: (L + 1 + 1, c1.o2) :: (L + 1 + 1 + 1, o3) :: (I, it) :: (rest7 (({ c1.B with kids := kids', n := n' } : BK).objs w ((mg "__name__").getD .none)) (tA, PySem.W.listOf (c1.told ++ [Value.int ((dueN fs' (List.foldl lawStep1 c1.ns (stepsS1 n)) : Nat) : Int) t']).toArray (c1.tn + 1)) (sA, PySem.W.listOf (c1.spv ++ [Value.str (pathR r' (List.foldl lawStep1 c1.ns (stepsS1 n))) t3]).toArray (c1.sn + 1)) (fA, PySem.W.listOf c1.fv.toArray c1.fn) (wA, PySem.W.listOf c1.wv.toArray c1.wn) (cA, PySem.W.listOf kvs.toArray kn) R').flatten) := N2
  clear F1 N1 P6 U9 N2
  clear H hwa ob8 hus hbl
  k_steps
  unfold Stop
  rename Fr _ _ _ _ => F1
  rename News _ _ _ _ => N0
  have N1 : News g L _ (cells L o1 c1.o2 o3 :: [(I, it)] :: rest7 (({ c1.B with kids := kids', n := n' } : BK).objs w ((mg "__name__").getD .none)) (tA, PySem.W.listOf (c1.told ++ [Value.int ((dueN fs' (List.foldl lawStep1 c1.ns (stepsS1 n)) : Nat) : Int) t']).toArray (c1.tn + 1)) (sA, PySem.W.listOf (c1.spv ++ [Value.str (pathR r' (List.foldl lawStep1 c1.ns (stepsS1 n))) t3]).toArray (c1.sn + 1)) (fA, PySem.W.listOf c1.fv.toArray c1.fn) (wA, PySem.W.listOf c1.wv.toArray c1.wn) (cA, PySem.W.listOf kvs.toArray kn) R').flatten := N0
  clear N0
  refine wpAny_storeName_cell (c := L + 1 + 1) rfl rfl rfl ⟨_, (N1 (L + 1 + 1, c1.o2) (.tail _ (.head _))).1, h2⟩ fun h10 ho10 hs10 => ?_
  obtain ⟨o2', ho10, hd10⟩ := ho10
  obtain ⟨F2, N2, P8⟩ := blk_c F1 N1 P7 hs10 ho10
  have N3 : News g L h10 ((L + 1, o1) :: (L + 1 + 1, o2') :: (L + 1 + 1 + 1, o3) :: (I, it) :: (rest7 (({ c1.B with kids := kids', n := n' } : BK).objs w ((mg "__name__").getD .none)) (tA, PySem.W.listOf (c1.told ++ [Value.int ((dueN fs' (List.foldl lawStep1 c1.ns (stepsS1 n)) : Nat) : Int) t']).toArray (c1.tn + 1)) (sA, PySem.W.listOf (c1.spv ++ [Value.str (pathR r' (List.foldl lawStep1 c1.ns (stepsS1 n))) t3]).toArray (c1.sn + 1)) (fA, PySem.W.listOf c1.fv.toArray c1.fn) (wA, PySem.W.listOf c1.wv.toArray c1.wn) (cA, PySem.W.listOf kvs.toArray kn) R').flatten) := N2
  clear F1 N1 P7 ho10 N2
  clear hs10 h2
  k_steps
  unfold Stop
  rename Fr _ _ _ _ => F1
  rename News _ _ _ _ => N0
  have N1 : News g L _ (cells L o1 o2' o3 :: [(I, it)] :: rest7 (({ c1.B with kids := kids', n := n' } : BK).objs w ((mg "__name__").getD .none)) (tA, PySem.W.listOf (c1.told ++ [Value.int ((dueN fs' (List.foldl lawStep1 c1.ns (stepsS1 n)) : Nat) : Int) t']).toArray (c1.tn + 1)) (sA, PySem.W.listOf (c1.spv ++ [Value.str (pathR r' (List.foldl lawStep1 c1.ns (stepsS1 n))) t3]).toArray (c1.sn + 1)) (fA, PySem.W.listOf c1.fv.toArray c1.fn) (wA, PySem.W.listOf c1.wv.toArray c1.wn) (cA, PySem.W.listOf kvs.toArray kn) R').flatten := N0
  clear N0
  refine getMethod_list_append (News.get N1 mem_w) rfl rfl ?_
  have N3 : News g L _ ((L + 1, o1) :: (L + 1 + 1, o2') :: (L + 1 + 1 + 1, o3) :: (I, it) :: (rest7 (({ c1.B with kids := kids', n := n' } : BK).objs w ((mg "__name__").getD .none)) (tA, PySem.W.listOf (c1.told ++ [Value.int ((dueN fs' (List.foldl lawStep1 c1.ns (stepsS1 n)) : Nat) : Int) t']).toArray (c1.tn + 1)) (sA, PySem.W.listOf (c1.spv ++ [Value.str (pathR r' (List.foldl lawStep1 c1.ns (stepsS1 n))) t3]).toArray (c1.sn + 1)) (fA, PySem.W.listOf c1.fv.toArray c1.fn) (wA, PySem.W.listOf c1.wv.toArray c1.wn) (cA, PySem.W.listOf kvs.toArray kn) R').flatten) := N1
  clear N1
  k_steps
  unfold Stop
  rename Fr _ _ _ _ => F1
  rename News _ _ _ _ => N0
  have N1 : News g L _ (cells L o1 o2' o3 :: [(I, it)] :: rest7 (({ c1.B with kids := kids', n := n' } : BK).objs w ((mg "__name__").getD .none)) (tA, PySem.W.listOf (c1.told ++ [Value.int ((dueN fs' (List.foldl lawStep1 c1.ns (stepsS1 n)) : Nat) : Int) t']).toArray (c1.tn + 1)) (sA, PySem.W.listOf (c1.spv ++ [Value.str (pathR r' (List.foldl lawStep1 c1.ns (stepsS1 n))) t3]).toArray (c1.sn + 1)) (fA, PySem.W.listOf c1.fv.toArray c1.fn) (wA, PySem.W.listOf c1.wv.toArray c1.wn) (cA, PySem.W.listOf kvs.toArray kn) R').flatten := N0
  clear N0
  refine happend (News.get N1 mem_w) (by omega) (fun h11 U11 => ?_)
  obtain ⟨F2, N2, P9⟩ := blk_w F1 N1 P8 U11
  have N3 : News g L h11 ((L + 1, o1) :: (L + 1 + 1, o2') :: (L + 1 + 1 + 1, o3) :: (I, it) :: (rest7 (({ c1.B with kids := kids', n := n' } : BK).objs w ((mg "__name__").getD .none)) (tA, PySem.W.listOf (c1.told ++ [Value.int ((dueN fs' (List.foldl lawStep1 c1.ns (stepsS1 n)) : Nat) : Int) t']).toArray (c1.tn + 1)) (sA, PySem.W.listOf (c1.spv ++ [Value.str (pathR r' (List.foldl lawStep1 c1.ns (stepsS1 n))) t3]).toArray (c1.sn + 1)) (fA, PySem.W.listOf c1.fv.toArray c1.fn) (wA, PySem.W.listOf (c1.wv ++ [Value.ref a2]).toArray (c1.wn + 1)) (cA, PySem.W.listOf kvs.toArray kn) R').flatten) := N2
  clear F1 N1 P8 U11 N2
  k_steps
  · unfold Stop
    rename Fr _ _ _ _ => F1
    rename News _ _ _ _ => N0
    have N1 : News g L _ (cells L o1 o2' o3 :: [(I, it)] :: rest7 (({ c1.B with kids := kids', n := n' } : BK).objs w ((mg "__name__").getD .none)) (tA, PySem.W.listOf (c1.told ++ [Value.int ((dueN fs' (List.foldl lawStep1 c1.ns (stepsS1 n)) : Nat) : Int) t']).toArray (c1.tn + 1)) (sA, PySem.W.listOf (c1.spv ++ [Value.str (pathR r' (List.foldl lawStep1 c1.ns (stepsS1 n))) t3]).toArray (c1.sn + 1)) (fA, PySem.W.listOf c1.fv.toArray c1.fn) (wA, PySem.W.listOf (c1.wv ++ [Value.ref a2]).toArray (c1.wn + 1)) (cA, PySem.W.listOf kvs.toArray kn) R').flatten := N0
    clear N0
    refine getMethod_list_of PySem.F.slot_list_extend PySem.F.type_list_extend ⟨_, (N1 _ mem_f).1, rfl, _, rfl⟩ ⟨_, (N1 _ mem_f).1, rfl⟩ ?_
    have N3 : News g L _ ((L + 1, o1) :: (L + 1 + 1, o2') :: (L + 1 + 1 + 1, o3) :: (I, it) :: (rest7 (({ c1.B with kids := kids', n := n' } : BK).objs w ((mg "__name__").getD .none)) (tA, PySem.W.listOf (c1.told ++ [Value.int ((dueN fs' (List.foldl lawStep1 c1.ns (stepsS1 n)) : Nat) : Int) t']).toArray (c1.tn + 1)) (sA, PySem.W.listOf (c1.spv ++ [Value.str (pathR r' (List.foldl lawStep1 c1.ns (stepsS1 n))) t3]).toArray (c1.sn + 1)) (fA, PySem.W.listOf c1.fv.toArray c1.fn) (wA, PySem.W.listOf (c1.wv ++ [Value.ref a2]).toArray (c1.wn + 1)) (cA, PySem.W.listOf kvs.toArray kn) R').flatten) := N1
    clear N1
    k_steps
    unfold Stop
    refine LCt.ListComp_T (F₀ := by k_asm) (by with_unfolding_all rfl) (by decide) (by rfl) (by decide) (by rfl) ?_
    k_steps
    unfold Stop
    rename Fr _ _ _ _ => F1
    rename News _ _ _ _ => N0
    have N1 : News g L _ (cells L o1 o2' o3 :: [(I, it)] :: rest7 (({ c1.B with kids := kids', n := n' } : BK).objs w ((mg "__name__").getD .none)) (tA, PySem.W.listOf (c1.told ++ [Value.int ((dueN fs' (List.foldl lawStep1 c1.ns (stepsS1 n)) : Nat) : Int) t']).toArray (c1.tn + 1)) (sA, PySem.W.listOf (c1.spv ++ [Value.str (pathR r' (List.foldl lawStep1 c1.ns (stepsS1 n))) t3]).toArray (c1.sn + 1)) (fA, PySem.W.listOf c1.fv.toArray c1.fn) (wA, PySem.W.listOf (c1.wv ++ [Value.ref a2]).toArray (c1.wn + 1)) (cA, PySem.W.listOf kvs.toArray kn) R').flatten := N0
    have hul2 := strsAre_len hus2
    refine PyProof.Rows.len_list ⟨_, (N1 _ (mem_R hmw)).1, rfl, _, rfl⟩ (by rw [List.size_toArray]; omega) ?_
    clear N1
    rw [List.size_toArray, hul2]
    k_steps
    unfold Stop
    rename Fr _ _ _ _ => F1
    rename News _ _ _ _ => N0
    rename IsRange _ _ _ _ _ _ _ _ => hr
    refine LCt.CompSrcT.range (n := (List.foldl lawStep1 c1.ns (stepsS1 n)).length) rfl F1 N0 hr (range_small (by omega)) (range_size _) (by rw [sizeLine_eq]; omega) (fun gg => ?_)
    clear F1 N0
    refine compT_inv (J := fun j ys nw => ∃ RR, nw = ((L + 1, o1) :: (L + 1 + 1, o2') :: (L + 1 + 1 + 1, o3) :: (I, it) :: (rest7 (({ c1.B with kids := kids', n := n' } : BK).objs w ((mg "__name__").getD .none)) (tA, PySem.W.listOf (c1.told ++ [Value.int ((dueN fs' (List.foldl lawStep1 c1.ns (stepsS1 n)) : Nat) : Int) t']).toArray (c1.tn + 1)) (sA, PySem.W.listOf (c1.spv ++ [Value.str (pathR r' (List.foldl lawStep1 c1.ns (stepsS1 n))) t3]).toArray (c1.sn + 1)) (fA, PySem.W.listOf c1.fv.toArray c1.fn) (wA, PySem.W.listOf (c1.wv ++ [Value.ref a2]).toArray (c1.wn + 1)) (cA, PySem.W.listOf kvs.toArray kn) RR).flatten) ∧ (cells L o1 o2' o3 :: [(I, it)] :: rest7 (({ c1.B with kids := kids', n := n' } : BK).objs w ((mg "__name__").getD .none)) (tA, PySem.W.listOf (c1.told ++ [Value.int ((dueN fs' (List.foldl lawStep1 c1.ns (stepsS1 n)) : Nat) : Int) t']).toArray (c1.tn + 1)) (sA, PySem.W.listOf (c1.spv ++ [Value.str (pathR r' (List.foldl lawStep1 c1.ns (stepsS1 n))) t3]).toArray (c1.sn + 1)) (fA, PySem.W.listOf c1.fv.toArray c1.fn) (wA, PySem.W.listOf (c1.wv ++ [Value.ref a2]).toArray (c1.wn + 1)) (cA, PySem.W.listOf kvs.toArray kn) RR).Pairwise Apart ∧ (∀ e ∈ R', e ∈ RR) ∧ DatAll RR ys ((newI c1.fs (List.foldl lawStep1 c1.ns (stepsS1 n)) j).map pD)) ⟨R', rfl, P9, fun e he => he, .nil⟩ ?_ ?_
    · rintro ys nw ⟨RR, rfl, P10, hRM, hD⟩
      k_steps
      unfold Stop
      rename Fr _ _ _ _ => F1
      rename News _ _ _ _ => N0
      rename_i D5 _ _ hoff
      have hyl2 := datAll_len hD
      have hnew := newI_len c1.fs (List.foldl lawStep1 c1.ns (stepsS1 n)) (List.foldl lawStep1 c1.ns (stepsS1 n)).length
      have hfvl := datAll_len hok1.fv
      rw [List.length_map] at hyl2 hfvl
      obtain ⟨_, _, _, _, hoff⟩ := hoff
      have hDf := off1_mem hoff (fA, PySem.W.listOf c1.fv.toArray c1.fn) (List.mem_flatten.mpr ⟨[(fA, PySem.W.listOf c1.fv.toArray c1.fn)], by simp [rest7], .head _⟩)
      refine ext_call (C := cells L o1 o2' o3) (I := [(I, it)]) (R := RR) (ws := ys) (n2 := ys.length) F1 (fun e he => N0 e (.tail _ he)) P10 (fun e he => N0 e (by rw [List.mem_singleton.mp he]; exact .head _)) (fun e => hDf e.symm) (by omega) (fun h12 fn' F2 N2 P11 => ?_)
      have N3 : News g L h12 ((L + 1, o1) :: (L + 1 + 1, o2') :: (L + 1 + 1 + 1, o3) :: (I, it) :: (rest7 (({ c1.B with kids := kids', n := n' } : BK).objs w ((mg "__name__").getD .none)) (tA, PySem.W.listOf (c1.told ++ [Value.int ((dueN fs' (List.foldl lawStep1 c1.ns (stepsS1 n)) : Nat) : Int) t']).toArray (c1.tn + 1)) (sA, PySem.W.listOf (c1.spv ++ [Value.str (pathR r' (List.foldl lawStep1 c1.ns (stepsS1 n))) t3]).toArray (c1.sn + 1)) (fA, PySem.W.listOf (c1.fv ++ ys).toArray fn') (wA, PySem.W.listOf (c1.wv ++ [Value.ref a2]).toArray (c1.wn + 1)) (cA, PySem.W.listOf kvs.toArray kn) RR).flatten) := N2
      clear F1 N0 N2
      k_steps
      obtain ⟨hop1, hop2⟩ := hop (by assumption)
      have hd2 : DatAll RR (c1.fv ++ ys) (fs'.map pD) := by
        rw [hop1, growI_new, List.map_append]
        exact datAll_app (hok1.fv.mono fun e he => hRM e (hRR e he)) hD
      exact (hQ (c1.turn { c1.B with kids := kids', n := n' } es' fs' t' (c1.fv ++ ys) fn' a2 us2 uq2 o2' (List.foldl lawStep1 c1.ns (stepsS1 n)) r' RR t3) _ _ _ (s1_turn hok1 (by omega) (by omega) hka' heo' hop hice ha3 (by omega) hr' hd2 (fun e he => hRM e (hRR e he)) (hRM _ hmw) hus2 hd10)
        (by assumption) (by assumption) P11 ⟨rfl, rfl, rfl, rfl, rfl, rfl, trivial⟩)
    · intro j v I1 oI C1 oC D1 m2 ys nw hh tkk E' hj hv hJ hoC hmx F N off ne
      obtain ⟨RR, rfl, P10, hRM, hD⟩ := hJ
      obtain ⟨tt, rfl⟩ := hv
      obtain ⟨ne1, ne2, ne3⟩ := ne
      have mW : (a2, PySem.W.listOf us2.toArray uq2) ∈ ((I1, oI) :: (C1, oC) :: (D1, LCg.lst ys) :: ((L + 1, o1) :: (L + 1 + 1, o2') :: (L + 1 + 1 + 1, o3) :: (I, it) :: (rest7 (({ c1.B with kids := kids', n := n' } : BK).objs w ((mg "__name__").getD .none)) (tA, PySem.W.listOf (c1.told ++ [Value.int ((dueN fs' (List.foldl lawStep1 c1.ns (stepsS1 n)) : Nat) : Int) t']).toArray (c1.tn + 1)) (sA, PySem.W.listOf (c1.spv ++ [Value.str (pathR r' (List.foldl lawStep1 c1.ns (stepsS1 n))) t3]).toArray (c1.sn + 1)) (fA, PySem.W.listOf c1.fv.toArray c1.fn) (wA, PySem.W.listOf (c1.wv ++ [Value.ref a2]).toArray (c1.wn + 1)) (cA, PySem.W.listOf kvs.toArray kn) RR).flatten)) := .tail _ (.tail _ (.tail _ (mem_R (C := cells L o1 o2' o3) (I := [(I, it)]) (hRM _ hmw))))
      have mF : (fA, PySem.W.listOf c1.fv.toArray c1.fn) ∈ ((I1, oI) :: (C1, oC) :: (D1, LCg.lst ys) :: ((L + 1, o1) :: (L + 1 + 1, o2') :: (L + 1 + 1 + 1, o3) :: (I, it) :: (rest7 (({ c1.B with kids := kids', n := n' } : BK).objs w ((mg "__name__").getD .none)) (tA, PySem.W.listOf (c1.told ++ [Value.int ((dueN fs' (List.foldl lawStep1 c1.ns (stepsS1 n)) : Nat) : Int) t']).toArray (c1.tn + 1)) (sA, PySem.W.listOf (c1.spv ++ [Value.str (pathR r' (List.foldl lawStep1 c1.ns (stepsS1 n))) t3]).toArray (c1.sn + 1)) (fA, PySem.W.listOf c1.fv.toArray c1.fn) (wA, PySem.W.listOf (c1.wv ++ [Value.ref a2]).toArray (c1.wn + 1)) (cA, PySem.W.listOf kvs.toArray kn) RR).flatten)) := .tail _ (.tail _ (.tail _ (mem_f (C := cells L o1 o2' o3) (I := [(I, it)]))))
      k_steps
      unfold Stop
      rename Fr _ _ _ _ => F1
      rename News _ _ _ _ => N0
      refine' kmk_slice F1 N0 ⟨_, (N0 _ mW).1, rfl, _, rfl⟩ ?sp ?sq ?_ ?ss ?st ?sz
      case sp => kmk_part
      case sq => kmk_part
      case ss => with_unfolding_all rfl
      case st => kmk_pure
      case sz => (rw [List.size_toArray, sizeLine_eq]; omega)
      intro D2 h2 F2 N2 l2
      simp only [pick_upto] at N2
      clear F1 N0
      k_steps
      unfold Stop
      rename Fr _ _ _ _ => F1
      rename News _ _ _ _ => N0
      have ha3t : A3 ((List.foldl lawStep1 c1.ns (stepsS1 n)).take (j + 1)) := a3_take ha3 _
      obtain ⟨bb, hbb⟩ : ∃ bb : Bool, bb = true ↔ (List.foldl lawStep1 c1.ns (stepsS1 n)).take (j + 1) ∉ c1.fs := ⟨decide _, decide_eq_true_iff⟩
      refine dat_notIn (b := bb) N0 (.tail _ mF) hok1.fv (fun e he => .tail _ (.tail _ (.tail _ (.tail _ (mem_R (C := cells L o1 o2' o3) (I := [(I, it)]) (hRM _ (hRR e he))))))) (n₂ := [(D2, PySem.W.listOf (us2.take (j + 1)).toArray 0)]) (d := pD ((List.foldl lawStep1 c1.ns (stepsS1 n)).take (j + 1))) (.list (.head _) (datAll_ss (strsAre_take (j + 1) hus2))) (fun e he => by rw [List.mem_singleton.mp he]; exact .head _)
        (fun d hd => by obtain ⟨q, hq, rfl⟩ := List.mem_map.mp hd; exact kqd_pD (ac_str (hok1.a3f q hq).1.ac)) (kqd_pD (ac_str ha3t.ac)) (show _ < 9900 by walk_at "my room") (by
          rw [hbb]
          refine not_congr ⟨fun h => List.mem_map_of_mem h, fun h => ?_⟩
          obtain ⟨q, hq, e⟩ := List.mem_map.mp h
          rw [← pD_inj e]; exact hq) ?_
      cases bb with
      | false =>
        have hin : (List.foldl lawStep1 c1.ns (stepsS1 n)).take (j + 1) ∈ c1.fs := Classical.byContradiction fun h => absurd (hbb.mpr h) (by decide)
        k_steps
        rename Fr _ _ _ _ => F1
        rename News _ _ _ _ => N0
        exact ⟨_, _, ((L + 1, o1) :: (L + 1 + 1, o2') :: (L + 1 + 1 + 1, o3) :: (I, it) :: (rest7 (({ c1.B with kids := kids', n := n' } : BK).objs w ((mg "__name__").getD .none)) (tA, PySem.W.listOf (c1.told ++ [Value.int ((dueN fs' (List.foldl lawStep1 c1.ns (stepsS1 n)) : Nat) : Int) t']).toArray (c1.tn + 1)) (sA, PySem.W.listOf (c1.spv ++ [Value.str (pathR r' (List.foldl lawStep1 c1.ns (stepsS1 n))) t3]).toArray (c1.sn + 1)) (fA, PySem.W.listOf c1.fv.toArray c1.fn) (wA, PySem.W.listOf (c1.wv ++ [Value.ref a2]).toArray (c1.wn + 1)) (cA, PySem.W.listOf kvs.toArray kn) RR).flatten), rfl, F1, fun e he => N0 e (.tail _ he), off, trivial, toStop ⟨RR, rfl, P10, hRM, by rw [newI_succ, if_pos hin]; exact hD⟩⟩
      | true =>
        have hnin := hbb.mp rfl
        k_steps
        unfold Stop
        rename Fr _ _ _ _ => F1
        rename News _ _ _ _ => N0
        refine' kmk_slice F1 N0 ⟨_, (N0 _ (.tail _ mW)).1, rfl, _, rfl⟩ ?sp ?sq ?_ ?ss ?st ?sz
        case sp => kmk_part
        case sq => kmk_part
        case ss => with_unfolding_all rfl
        case st => kmk_pure
        case sz => (rw [List.size_toArray, sizeLine_eq]; omega)
        intro D3 h3 F3 N3 l3
        simp only [pick_upto] at N3
        clear F1 N0
        have hnx : ∀ e ∈ (cells L o1 o2' o3 :: [(I, it)] :: rest7 (({ c1.B with kids := kids', n := n' } : BK).objs w ((mg "__name__").getD .none)) (tA, PySem.W.listOf (c1.told ++ [Value.int ((dueN fs' (List.foldl lawStep1 c1.ns (stepsS1 n)) : Nat) : Int) t']).toArray (c1.tn + 1)) (sA, PySem.W.listOf (c1.spv ++ [Value.str (pathR r' (List.foldl lawStep1 c1.ns (stepsS1 n))) t3]).toArray (c1.sn + 1)) (fA, PySem.W.listOf c1.fv.toArray c1.fn) (wA, PySem.W.listOf (c1.wv ++ [Value.ref a2]).toArray (c1.wn + 1)) (cA, PySem.W.listOf kvs.toArray kn) RR).flatten, @Ne Nat e.1 D3 := fun e he => Nat.ne_of_lt (l3 e (.tail _ (.tail _ (.tail _ (.tail _ he)))))
        k_steps
        rename Fr _ _ _ _ => F1
        rename News _ _ _ _ => N0
        refine ⟨_, _, ((L + 1, o1) :: (L + 1 + 1, o2') :: (L + 1 + 1 + 1, o3) :: (I, it) :: (rest7 (({ c1.B with kids := kids', n := n' } : BK).objs w ((mg "__name__").getD .none)) (tA, PySem.W.listOf (c1.told ++ [Value.int ((dueN fs' (List.foldl lawStep1 c1.ns (stepsS1 n)) : Nat) : Int) t']).toArray (c1.tn + 1)) (sA, PySem.W.listOf (c1.spv ++ [Value.str (pathR r' (List.foldl lawStep1 c1.ns (stepsS1 n))) t3]).toArray (c1.sn + 1)) (fA, PySem.W.listOf c1.fv.toArray c1.fn) (wA, PySem.W.listOf (c1.wv ++ [Value.ref a2]).toArray (c1.wn + 1)) (cA, PySem.W.listOf kvs.toArray kn) (RR ++ [(D3, PySem.W.listOf (us2.take (j + 1)).toArray 0)])).flatten), rfl, F1, fun e he => ?_, LCg.Off3.of fun e he => ?_, trivial, toStop ⟨RR ++ [(D3, PySem.W.listOf (us2.take (j + 1)).toArray 0)], rfl, pw_snoc P10 hnx, fun e he => List.mem_append_left _ (hRM e he), ?_⟩⟩
        · rcases List.mem_cons.mp he with rfl | he
          · exact N0 _ (.tail _ (.tail _ (.head _)))
          · rcases List.mem_cons.mp he with rfl | he
            · exact N0 _ (.tail _ (.tail _ (.tail _ (.head _))))
            · rcases List.mem_cons.mp he with rfl | he
              · exact N0 _ (.tail _ (.tail _ (.tail _ (.tail _ (.head _)))))
              · have he : e ∈ (cells L o1 o2' o3 :: [(I, it)] :: rest7 (({ c1.B with kids := kids', n := n' } : BK).objs w ((mg "__name__").getD .none)) (tA, PySem.W.listOf (c1.told ++ [Value.int ((dueN fs' (List.foldl lawStep1 c1.ns (stepsS1 n)) : Nat) : Int) t']).toArray (c1.tn + 1)) (sA, PySem.W.listOf (c1.spv ++ [Value.str (pathR r' (List.foldl lawStep1 c1.ns (stepsS1 n))) t3]).toArray (c1.sn + 1)) (fA, PySem.W.listOf c1.fv.toArray c1.fn) (wA, PySem.W.listOf (c1.wv ++ [Value.ref a2]).toArray (c1.wn + 1)) (cA, PySem.W.listOf kvs.toArray kn) (RR ++ [(D3, PySem.W.listOf (us2.take (j + 1)).toArray 0)])).flatten := he
                rw [led_snoc] at he
                rcases List.mem_append.mp he with he | he
                · exact N0 _ (.tail _ (.tail _ (.tail _ (.tail _ (.tail _ he)))))
                · rw [List.mem_singleton.mp he]; exact N0 _ (.head _)
        · have he : e ∈ (cells L o1 o2' o3 :: [(I, it)] :: rest7 (({ c1.B with kids := kids', n := n' } : BK).objs w ((mg "__name__").getD .none)) (tA, PySem.W.listOf (c1.told ++ [Value.int ((dueN fs' (List.foldl lawStep1 c1.ns (stepsS1 n)) : Nat) : Int) t']).toArray (c1.tn + 1)) (sA, PySem.W.listOf (c1.spv ++ [Value.str (pathR r' (List.foldl lawStep1 c1.ns (stepsS1 n))) t3]).toArray (c1.sn + 1)) (fA, PySem.W.listOf c1.fv.toArray c1.fn) (wA, PySem.W.listOf (c1.wv ++ [Value.ref a2]).toArray (c1.wn + 1)) (cA, PySem.W.listOf kvs.toArray kn) (RR ++ [(D3, PySem.W.listOf (us2.take (j + 1)).toArray 0)])).flatten := he
          rw [led_snoc] at he
          rcases List.mem_append.mp he with he | he
          · exact off.mem e he
          · rw [List.mem_singleton.mp he]
            exact ⟨Nat.ne_of_gt (l3 (I1, oI) (.tail _ (.head _))), Nat.ne_of_gt (l3 (C1, oC) (.tail _ (.tail _ (.head _)))), Nat.ne_of_gt (l3 (D1, LCg.lst ys) (.tail _ (.tail _ (.tail _ (.head _)))))⟩
        · rw [newI_succ, if_neg hnin, List.map_append]
          exact datAll_snoc (hD.mono fun e he => List.mem_append_left _ he) (.list (List.mem_append_right _ (.head _)) (datAll_ss (strsAre_take (j + 1) hus2)))
  · exact (hQ (c1.turn { c1.B with kids := kids', n := n' } es' fs' t' c1.fv c1.fn a2 us2 uq2 o2' (List.foldl lawStep1 c1.ns (stepsS1 n)) r' R' t3) _ _ _ (s1_turn hok1 (by omega) (by omega) hka' heo' hop hice ha3 (by omega) hr' (by rw [hice (by omega)]; exact hok1.fv.mono hRR) hRR hmw hus2 hd10)
      (by assumption) (by assumption) P9 ⟨rfl, rfl, rfl, rfl, rfl, rfl, trivial⟩)
end
section
set_option maxHeartbeats 4000000
theorem off_it {n : String} {I : Addr} {it : Obj} {B : List (List Row)} (P : ([(I, it)] :: B).Pairwise Apart) : OffI n I B.flatten := .of_ne fun p hp => by
  obtain ⟨b, hb, hp⟩ := List.mem_flatten.mp hp
  exact .inr fun e => (List.pairwise_cons.mp P).1 b hb _ (.head _) p hp e.symm
theorem pw_swap {a b : List Row} {l : List (List Row)} (P : (a :: b :: l).Pairwise Apart) : (b :: a :: l).Pairwise Apart := by
  rw [List.pairwise_cons, List.pairwise_cons] at P ⊢
  refine ⟨fun c hc => ?_, fun c hc => P.1 c (.tail _ hc), P.2.2⟩
  rcases List.mem_cons.mp hc with rfl | hc
  · exact (P.1 b (.head _)).symm
  · exact P.2.1 c hc
theorem mem_swap {a b : List Row} {l : List (List Row)} {e : Row} (h : e ∈ (a :: b :: l).flatten) : e ∈ (b :: a :: l).flatten := by
  simp only [List.flatten_cons, List.mem_append] at h ⊢
  rcases h with h | h | h <;> simp [h]
theorem range0_small {m : Nat} (h : m ≤ 13) : Builtin.Range.small 0 ((m : Nat) : Int) 1 = true := by
  have key : ∀ m : Nat, m < 14 → Builtin.Range.small 0 ((m : Nat) : Int) 1 = true := by decide +kernel
  exact key m (Nat.lt_succ_of_le h)
theorem range0_size (n : Nat) : Builtin.Range.rangeSize 0 ((n : Nat) : Int) 1 = ((n : Nat) : Int) := by
  unfold Builtin.Range.rangeSize; simp; omega
theorem loop1_ct : ∀ {w : World} {dp un : Nat} {fr : Option (List Env)} {gd : Option (List Code)} {s : Shared} {Q : Flow → Shared → Prop} {E : Value → Shared → Prop} {c0 : S1} {m : Nat} {stop : Int} {ts : Tok} {x0 tA sA fA wA cA r : Addr} {o1 o3 : Obj} {L fa : Addr} {cd : Value} {kvs : List Value} {ks : List Int} {kn : Nat} {m0 : Str → Option Value} {rt ru rv : Tok}
   {p loose mean mg mb} {g : Heap} {oc od an osl name qual params a1 a2 a3 a4 a5 tg ite fb oe ps rest scope dV kV doc pm cdv ct}
   (hb : (K1 w.params).lookup 231 = some ⟨oc, od, .func (fnOf name qual params (a1 :: a2 :: a3 :: a4 :: a5 :: .For tg ite fb oe ps :: rest) scope dV kV doc pm an cdv ct), osl⟩)
   (X : (K1 w.params).In g) (TT : Top p loose mean mg mb g) (CH : CodeHd g 61 57)
   (F : Fr g L s.heap m0) (N : News g L s.heap (cells L o1 c0.o2 o3 :: c0.rest w ((mg "__name__").getD .none) tA sA fA wA cA (listOf kvs.toArray kn)).flatten) (P : (cells L o1 c0.o2 o3 :: c0.rest w ((mg "__name__").getD .none) tA sA fA wA cA (listOf kvs.toArray kn)).Pairwise Apart)
   (hm0 : AllAt m0 (c0.ps stop ts tA sA wA cA)) (h1 : o1.data = .cell (some (.ref x0))) (h3 : o3.data = .cell (some (.ref fA))) (hok : S1Ok 0 (0 : Nat) stop c0 x0) (hm : m ≤ 13) (hk : IntsAre kvs ks) (hkl : ks.length = m) (hn : ∀ i, i < m → ∃ n : Nat, ks[i]? = some (n : Int) ∧ n < 4096) (hs2 : 2 ≤ stop) (hs3 : stop ≤ 13)
   (hr : IsRange s.heap r 0 ((m : Nat) : Int) 1 rt ru rv) (hdp : dp + 250 < 1000) (hu : un + 2000 < 9900)
   (hQ : ∀ c h' tk u, S1Ok m (m : Nat) stop c x0 → Fr g L h' (chain (c.ps stop ts tA sA wA cA) u) → News g L h' (cells L o1 c.o2 o3 :: c.rest w ((mg "__name__").getD .none) tA sA fA wA cA (listOf kvs.toArray kn)).flatten → (cells L o1 c.o2 o3 :: c.rest w ((mg "__name__").getD .none) tA sA fA wA cA (listOf kvs.toArray kn)).Pairwise Apart → Q .next { s with heap := h', toks := tk })
   , wpAny (model PySem.Challenge.rw_il0142_01.row.prog w) ((Ar dp un fr gd).deeper (envOfC qual scope L fa cd)) (pyIter (.ref r)) (fun it s₂ => LoopAtV PySem.Challenge.rw_il0142_01.row.prog w ((Ar dp un fr gd).deeper (envOfC qual scope L fa cd)) g (envOfC qual scope L fa cd) (Str.ofString "k") fb Q E it s₂) E s := by
  k_fill
  intro w dp un fr gd s Q E c0 m stop ts x0 tA sA fA wA cA r o1 o3 L fa cd kvs ks kn m0 rt ru rv p loose mean mg mb g oc od an osl name qual params a1 a2 a3 a4 a5 tg ite fb oe ps rest scope dV kV doc pm cdv ct hb X TT CH F N P hm0 h1 h3 hok hm hk hkl hn hs2 hs3 hr hdp hu hQ
  refine for_range (σ := S1) (n := m) (fun c => (cells L o1 c.o2 o3 :: c.rest w ((mg "__name__").getD .none) tA sA fA wA cA (listOf kvs.toArray kn)).flatten) (fun c => c.ps stop ts tA sA wA cA)
    (fun i c => S1Ok i (i : Nat) stop c x0 ∧ (cells L o1 c.o2 o3 :: c.rest w ((mg "__name__").getD .none) tA sA fA wA cA (listOf kvs.toArray kn)).Pairwise Apart) c0 rfl hr (range0_small hm) (range0_size m) F N (Sub.of_mem fun e he => he) hm0 ⟨hok, P⟩ ?_ ?_
  · intro i t c h tk I it u hi hP F' N' hcl hne
    obtain ⟨hok, P⟩ := hP
    obtain ⟨n, hn1, hn2⟩ := hn i hi
    rw [Int.zero_add] at F'
    refine turn1_ct (I := I) (it := it) hb X TT (topRead_of TT) CH F' (fun e he => N' e ?_) (pw_swap (pair_it hne P)) h1 h3 hok hi hm hk hkl hn1 hn2 hs2 hs3 hdp hu (fun c' h' tk m' hok' F2 N2 P2 hps => ?_)
    · have he := mem_swap he
      rcases List.mem_append.mp (show e ∈ [(I, it)] ++ _ from he) with he | he
      · rw [List.mem_singleton.mp he]; exact .head _
      · exact .tail _ he
    · have P3 := pw_swap P2
      exact TEnd2.intro c' F2 N2 (Sub.of_mem fun e he => mem_swap (show e ∈ ([(I, it)] :: cells L o1 c'.o2 o3 :: _).flatten from .tail _ he)) (mem_swap (show (I, it) ∈ ([(I, it)] :: cells L o1 c'.o2 o3 :: _).flatten from .head _)) (off_it P3) hps ⟨hok', (List.pairwise_cons.mp P3).2⟩
  · intro c h tk u hP F' N'
    exact hQ c h tk u hP.1 F' N' hP.2
theorem start_ct : ∀ {w : World} {dp un : Nat} {fr : Option (List Env)} {gd : Option (List Code)} {s : Shared} {Q E : Value → Shared → Prop} {L D : Addr} {m : Str → Option Value} {ob w1 w2 w3 : Obj} {r1 r2 r3 : Row}
   {p loose mean mg mb} {g : Heap}
   (F : Fr g L s.heap m) (N : News g L s.heap [(D, ob), r1, r2, r3, (L + 1 + 1 + 1, w3), (L + 1 + 1, w2), (L + 1, w1), (57, tabObj #[]), (193, tabObj #[])])
   (X : (K1 w.params).In g) (TT : Top p loose mean mg mb g) (CN : CodeHd g 197 193) (hL : @LT.lt Nat _ 193 L) (hD : @LT.lt Nat _ 193 D) (hdp : dp + 15 < 1000) (hu : un + 60 < 9900)
   (hQ : ∀ x dx f c cc co oc ctv ps h' tk, Fr g L h' m → News g L h' [(x, foldObj w 65 dx f [] 0), (dx, bag0), (f, lamObj1 (stAt 23) lamQual1 c ((mg "__name__").getD .none) cc ctv), (c, co), (cc, oc), (193, tabObj ps), (D, ob), (L + 1 + 1 + 1, w3), (L + 1 + 1, w2), (L + 1, w1), (57, tabObj #[])] →
      co.data = .cell (some (.ref x)) → (∃ vs t, oc.data = .fields vs ∧ vs[1]? = some (.str lamQual1 t)) → @LT.lt Nat _ 193 x → ((@Ne Nat dx 193) ∧ (@Ne Nat f 193) ∧ (@Ne Nat c 193) ∧ (@Ne Nat cc 193)) →
      ((@Ne Nat x D ∧ @Ne Nat x (L + 1 + 1 + 1) ∧ @Ne Nat x (L + 1 + 1) ∧ @Ne Nat x (L + 1) ∧ @Ne Nat x 57) ∧ (@Ne Nat dx D ∧ @Ne Nat dx (L + 1 + 1 + 1) ∧ @Ne Nat dx (L + 1 + 1) ∧ @Ne Nat dx (L + 1) ∧ @Ne Nat dx 57) ∧
       (@Ne Nat f D ∧ @Ne Nat f (L + 1 + 1 + 1) ∧ @Ne Nat f (L + 1 + 1) ∧ @Ne Nat f (L + 1) ∧ @Ne Nat f 57) ∧ (@Ne Nat c D ∧ @Ne Nat c (L + 1 + 1 + 1) ∧ @Ne Nat c (L + 1 + 1) ∧ @Ne Nat c (L + 1) ∧ @Ne Nat c 57) ∧
       (@Ne Nat cc D ∧ @Ne Nat cc (L + 1 + 1 + 1) ∧ @Ne Nat cc (L + 1 + 1) ∧ @Ne Nat cc (L + 1) ∧ @Ne Nat cc 57)) → Q (.ref x) { s with heap := h', toks := tk })
   , wpAny (model PySem.Challenge.rw_il0142_01.row.prog w) (Ar dp un fr gd) (call (.ref 198) []) Q E s := by
  k_fill
  intro w dp un fr gd s Q E L D m ob w1 w2 w3 r1 r2 r3 p loose mean mg mb g F N X TT CN hL hD hdp hu hQ
  have N2 : News g L s.heap ([(193, tabObj #[])] ++ [(D, ob), (L + 1 + 1 + 1, w3), (L + 1 + 1, w2), (L + 1, w1), (57, tabObj #[])]) := fun e he => N e (by
    simp only [List.mem_append, List.mem_cons, List.not_mem_nil, or_false] at he ⊢
    rcases he with rfl | rfl | rfl | rfl | rfl | rfl <;> simp)
  have H := hid_frame F N2
  have ap : ∀ p ∈ [(D, ob), (L + 1 + 1 + 1, w3), (L + 1 + 1, w2), (L + 1, w1), (57, tabObj #[])], ∀ q ∈ [((193 : Addr), tabObj #[])], @Ne Nat q.1 p.1 := fun p hp q hq => by
    rw [List.mem_singleton.mp hq]
    simp only [List.mem_cons, List.not_mem_nil, or_false] at hp
    have h1 : @LT.lt Nat _ L (L + 1) := Nat.lt_succ_self _
    have h2 : @LT.lt Nat _ (L + 1) (L + 1 + 1) := Nat.lt_succ_self _
    have h3 : @LT.lt Nat _ (L + 1 + 1) (L + 1 + 1 + 1) := Nat.lt_succ_self _
    rcases hp with rfl | rfl | rfl | rfl | rfl
    · exact Nat.ne_of_lt hD
    · exact Nat.ne_of_lt (Nat.lt_trans hL (Nat.lt_trans h1 (Nat.lt_trans h2 h3)))
    · exact Nat.ne_of_lt (Nat.lt_trans hL (Nat.lt_trans h1 h2))
    · exact Nat.ne_of_lt (Nat.lt_trans hL h1)
    · exact (show (193 : Nat) ≠ 57 by decide)
  refine numbering_ct (X.keeps H.2) (TT.keeps H.2) (CN.keeps H.2) H.1 hdp hu (fun x dx f c cc co oc ctv ps h2 tk2 U hco hoc hbig h193 => ?_)
  obtain ⟨F3, N3⟩ := under_frame F N2 ap U
  have hap := apart_new (fun e he => N2 e (List.mem_append_right _ he)) (fun p hp q hq e => ap p hp q hq e.symm) U
  have a1 := fun (e : Row) he => hap (x, foldObj w 65 dx f [] 0) (.head _) e he
  have a2 := fun (e : Row) he => hap (dx, bag0) (.tail _ (.head _)) e he
  have a3 := fun (e : Row) he => hap (f, lamObj1 (stAt 23) lamQual1 c ((mg "__name__").getD .none) cc ctv) (.tail _ (.tail _ (.head _))) e he
  have a4 := fun (e : Row) he => hap (c, co) (.tail _ (.tail _ (.tail _ (.head _)))) e he
  have a5 := fun (e : Row) he => hap (cc, oc) (.tail _ (.tail _ (.tail _ (.tail _ (.head _))))) e he
  have five : ∀ {a : Addr}, (∀ e ∈ [(D, ob), (L + 1 + 1 + 1, w3), (L + 1 + 1, w2), (L + 1, w1), ((57 : Addr), tabObj #[])], a ≠ e.1) → (@Ne Nat a D ∧ @Ne Nat a (L + 1 + 1 + 1) ∧ @Ne Nat a (L + 1 + 1) ∧ @Ne Nat a (L + 1) ∧ @Ne Nat a 57) := fun h =>
    ⟨h (D, ob) (.head _), h (L + 1 + 1 + 1, w3) (.tail _ (.head _)), h (L + 1 + 1, w2) (.tail _ (.tail _ (.head _))), h (L + 1, w1) (.tail _ (.tail _ (.tail _ (.head _)))), h (57, tabObj #[]) (.tail _ (.tail _ (.tail _ (.tail _ (.head _)))))⟩
  exact hQ x dx f c cc co oc ctv ps _ _ F3 N3 hco hoc hbig h193 ⟨five a1, five a2, five a3, five a4, five a5⟩
end
section
set_option maxHeartbeats 400000
/-- the loop's first state -/
noncomputable def c01 (x dx f c cc : Addr) (co oc : Obj) (ctv : Value) (wy : Addr) (ps : Array Value) (o2 : Obj) (st : Tok) : S1 :=
  { B := ⟨x, dx, f, c, cc, co, oc, ctv, [], 0, none⟩, es := [], fs := [], told := [], tn := 0, spv := [], sn := 0, sp := [], fv := [], fn := 0, wv := [], wn := 0, wa := wy, wvs := [], wun := 0, o2 := o2, ns := [], r := sl, R := [(wy, listOf #[] 0), (193, tabObj ps)], st := st }
theorem ok01 {x dx f c cc : Addr} {co oc : Obj} {ctv : Value} {wy : Addr} {ps : Array Value} {o2 : Obj} {st : Tok} {stop : Int}
    (hco : co.data = .cell (some (.ref x))) (hoc : ∃ vs t, oc.data = .fields vs ∧ vs[1]? = some (.str lamQual1 t)) (big : @LT.lt Nat _ 193 x) (ho : o2.data = .cell (some (.ref wy))) (hs : 2 ≤ stop) :
    S1Ok 0 ((0 : Nat) : Int) stop (c01 x dx f c cc co oc ctv wy ps o2 st) x := by
  refine ⟨⟨hco, hoc, big, Nat.zero_le _, fun z h => nomatch h⟩, rfl, .nil, ⟨rfl, fun k p h => ?_, (fun p h => nomatch h), List.nodup_nil⟩, (fun q h => nomatch h), Nat.le_refl _, (fun q h => nomatch h), Nat.le_refl _, .inl rfl, .nil, .nil, (fun p h => nomatch h), .nil, .nil, .head _, .nil, ho, rfl, (fun _ p h => nomatch h), ?_, ⟨ps, .tail _ (.head _)⟩⟩
  · rw [show (c01 x dx f c cc co oc ctv wy ps o2 st).fs = [] from rfl] at h; simp at h
  · show ((none : Option Fz1).isSome = true ↔ stop < ((0 : Nat) : Int))
    constructor
    · intro h; cases h
    · intro h; omega
theorem blocks01 {g h : Heap} {L : Addr} {w : World} {pm : Value} {x dx f c cc D sA tA wy wA fA : Addr} {co oc o1 o2 o3 ob : Obj} {ctv : Value} {ps : Array Value} {st : Tok} {r1 r2 : Row}
    (N : News g L h [r1, (fA, listOf #[] 0), (wA, listOf #[] 0), (wy, listOf #[] 0), r2, (tA, listOf #[] 0), (sA, listOf #[] 0), (x, foldObj w 65 dx f [] 0), (dx, bag0), (f, lamObj1 (stAt 23) lamQual1 c pm cc ctv), (c, co), (cc, oc), (193, tabObj ps), (D, ob), (L + 1 + 1 + 1, o3), (L + 1 + 1, o2), (L + 1, o1), (57, tabObj #[])])
    (big : @LT.lt Nat _ 193 x) (h193 : (@Ne Nat dx 193) ∧ (@Ne Nat f 193) ∧ (@Ne Nat c 193) ∧ (@Ne Nat cc 193)) (hL : @LT.lt Nat _ 193 L) (hD : @LT.lt Nat _ (L + 1 + 1 + 1) D)
    (hne : (@Ne Nat x D ∧ @Ne Nat x (L + 1 + 1 + 1) ∧ @Ne Nat x (L + 1 + 1) ∧ @Ne Nat x (L + 1) ∧ @Ne Nat x 57) ∧ (@Ne Nat dx D ∧ @Ne Nat dx (L + 1 + 1 + 1) ∧ @Ne Nat dx (L + 1 + 1) ∧ @Ne Nat dx (L + 1) ∧ @Ne Nat dx 57) ∧
       (@Ne Nat f D ∧ @Ne Nat f (L + 1 + 1 + 1) ∧ @Ne Nat f (L + 1 + 1) ∧ @Ne Nat f (L + 1) ∧ @Ne Nat f 57) ∧ (@Ne Nat c D ∧ @Ne Nat c (L + 1 + 1 + 1) ∧ @Ne Nat c (L + 1 + 1) ∧ @Ne Nat c (L + 1) ∧ @Ne Nat c 57) ∧
       (@Ne Nat cc D ∧ @Ne Nat cc (L + 1 + 1 + 1) ∧ @Ne Nat cc (L + 1 + 1) ∧ @Ne Nat cc (L + 1) ∧ @Ne Nat cc 57))
    (hs : @LT.lt Nat _ x sA ∧ @LT.lt Nat _ dx sA ∧ @LT.lt Nat _ f sA ∧ @LT.lt Nat _ c sA ∧ @LT.lt Nat _ cc sA ∧ @LT.lt Nat _ 193 sA ∧ @LT.lt Nat _ D sA ∧ @LT.lt Nat _ (L + 1 + 1 + 1) sA ∧ @LT.lt Nat _ (L + 1 + 1) sA ∧ @LT.lt Nat _ (L + 1) sA ∧ @LT.lt Nat _ 57 sA)
    (ht : @LT.lt Nat _ sA tA) (hw : @LT.lt Nat _ tA wy) (hW : @LT.lt Nat _ wy wA) (hf : @LT.lt Nat _ wA fA) :
    News g L h (cells L o1 o2 o3 :: (c01 x dx f c cc co oc ctv wy ps o2 st).rest w pm tA sA fA wA D ob).flatten ∧ (cells L o1 o2 o3 :: (c01 x dx f c cc co oc ctv wy ps o2 st).rest w pm tA sA fA wA D ob).Pairwise Apart := by
  have eB : (c01 x dx f c cc co oc ctv wy ps o2 st).B.objs w pm = [(x, foldObj w 65 dx f [] 0), (dx, bag0), (f, lamObj1 (stAt 23) lamQual1 c pm cc ctv), (c, co), (cc, oc), (57, tabObj #[])] := rfl
  have e0 : (cells L o1 o2 o3 :: (c01 x dx f c cc co oc ctv wy ps o2 st).rest w pm tA sA fA wA D ob) =
      [[(L + 1, o1), (L + 1 + 1, o2), (L + 1 + 1 + 1, o3)], [(x, foldObj w 65 dx f [] 0), (dx, bag0), (f, lamObj1 (stAt 23) lamQual1 c pm cc ctv), (c, co), (cc, oc), (57, tabObj #[])], [(tA, listOf #[] 0)], [(sA, listOf #[] 0)], [(fA, listOf #[] 0)], [(wA, listOf #[] 0)], [(D, ob)], [(wy, listOf #[] 0), (193, tabObj ps)]] := rfl
  rw [e0]
  constructor
  · intro e he
    refine N e ?_
    simp only [List.flatten_cons, List.flatten_nil, List.mem_append, List.mem_cons, List.not_mem_nil, or_false] at he ⊢
    rcases he with (rfl | rfl | rfl) | (rfl | rfl | rfl | rfl | rfl | rfl) | rfl | rfl | rfl | rfl | rfl | rfl | rfl <;> simp
  · obtain ⟨⟨x1, x2, x3, x4, x5⟩, ⟨d1, d2, d3, d4, d5⟩, ⟨f1, f2, f3, f4, f5⟩, ⟨c1, c2, c3, c4, c5⟩, ⟨k1, k2, k3, k4, k5⟩⟩ := hne
    obtain ⟨s1, s2, s3, s4, s5, s6, s7, s8, s9, s10, s11⟩ := hs
    obtain ⟨g1, g2, g3, g4⟩ := h193
    have l1 : @LT.lt Nat _ 193 (L + 1) := Nat.lt_succ_of_lt hL
    have l2 : @LT.lt Nat _ 193 (L + 1 + 1) := Nat.lt_succ_of_lt l1
    have l3 : @LT.lt Nat _ 193 (L + 1 + 1 + 1) := Nat.lt_succ_of_lt l2
    have l57 : ∀ {a : Nat}, 193 < a → (57 : Nat) ≠ a := fun h e => by rw [← e] at h; exact absurd h (by decide)
    have D1 : @LT.lt Nat _ (L + 1 + 1) D := Nat.lt_trans (Nat.lt_succ_self _) hD
    have D2 : @LT.lt Nat _ (L + 1) D := Nat.lt_trans (Nat.lt_succ_self _) D1
    have D3 : @LT.lt Nat _ 193 D := Nat.lt_trans l3 hD
    have up : ∀ {a b c : Nat}, a < b → b < c → a < c := fun h h' => Nat.lt_trans h h'
    have low : ∀ {k : Nat} {o : Obj}, sA ≤ k → Apart [(L + 1, o1), (L + 1 + 1, o2), (L + 1 + 1 + 1, o3)] [(k, o)] ∧ Apart [(x, foldObj w 65 dx f [] 0), (dx, bag0), (f, lamObj1 (stAt 23) lamQual1 c pm cc ctv), (c, co), (cc, oc), ((57 : Addr), tabObj #[])] [(k, o)] ∧ Apart [(D, ob)] [(k, o)] := fun {k o} hk => by
      have le : ∀ {a : Nat}, a < sA → a ≠ k := fun h e => absurd (Nat.lt_of_lt_of_le h hk) (by rw [e]; exact Nat.lt_irrefl _)
      refine ⟨fun p hp q hq => ?_, fun p hp q hq => ?_, fun p hp q hq => ?_⟩
      · rw [List.mem_singleton.mp hq]
        simp only [List.mem_cons, List.not_mem_nil, or_false] at hp
        rcases hp with rfl | rfl | rfl
        · exact le s10
        · exact le s9
        · exact le s8
      · rw [List.mem_singleton.mp hq]
        simp only [List.mem_cons, List.not_mem_nil, or_false] at hp
        rcases hp with rfl | rfl | rfl | rfl | rfl | rfl
        · exact le s1
        · exact le s2
        · exact le s3
        · exact le s4
        · exact le s5
        · exact le s11
      · rw [List.mem_singleton.mp hq, List.mem_singleton.mp hp]; exact le s7
    have one : ∀ {a b : Nat} {o o' : Obj}, a ≠ b → Apart [((a : Addr), o)] [((b : Addr), o')] := fun h p hp q hq => by
      rw [List.mem_singleton.mp hp, List.mem_singleton.mp hq]; exact h
    have two : ∀ {l : List Row} {a b : Row}, Apart l [a] → Apart l [b] → Apart l [a, b] := fun {l a b} h h' p hp q hq => by
      rcases List.mem_cons.mp hq with rfl | hq
      · exact h p hp _ (.head _)
      · exact h' p hp q hq
    have h193s : ∀ {k : Nat} {o : Obj}, sA ≤ k → Apart [((k : Addr), o)] [((193 : Addr), tabObj ps)] := fun hk => one (Nat.ne_of_gt (Nat.lt_of_lt_of_le s6 hk))
    have e1 : sA ≤ tA := Nat.le_of_lt ht
    have e2 : sA ≤ wy := Nat.le_of_lt (up ht hw)
    have e3 : sA ≤ wA := Nat.le_of_lt (up (up ht hw) hW)
    have e4 : sA ≤ fA := Nat.le_of_lt (up (up (up ht hw) hW) hf)
    have CB : Apart [(L + 1, o1), (L + 1 + 1, o2), (L + 1 + 1 + 1, o3)] [(x, foldObj w 65 dx f [] 0), (dx, bag0), (f, lamObj1 (stAt 23) lamQual1 c pm cc ctv), (c, co), (cc, oc), ((57 : Addr), tabObj #[])] := fun p hp q hq e => by
      simp only [List.mem_cons, List.not_mem_nil, or_false] at hp hq
      rcases hp with rfl | rfl | rfl <;> rcases hq with rfl | rfl | rfl | rfl | rfl | rfl <;> first | exact x4 e.symm | exact x3 e.symm | exact x2 e.symm | exact d4 e.symm | exact d3 e.symm | exact d2 e.symm | exact f4 e.symm | exact f3 e.symm | exact f2 e.symm | exact c4 e.symm | exact c3 e.symm | exact c2 e.symm | exact k4 e.symm | exact k3 e.symm | exact k2 e.symm | exact l57 l1 e.symm | exact l57 l2 e.symm | exact l57 l3 e.symm
    have CD : Apart [(L + 1, o1), (L + 1 + 1, o2), (L + 1 + 1 + 1, o3)] [(D, ob)] := fun p hp q hq => by
      rw [List.mem_singleton.mp hq]
      simp only [List.mem_cons, List.not_mem_nil, or_false] at hp
      rcases hp with rfl | rfl | rfl
      · exact Nat.ne_of_lt D2
      · exact Nat.ne_of_lt D1
      · exact Nat.ne_of_lt hD
    have C193 : Apart [(L + 1, o1), (L + 1 + 1, o2), (L + 1 + 1 + 1, o3)] [((193 : Addr), tabObj ps)] := fun p hp q hq => by
      rw [List.mem_singleton.mp hq]
      simp only [List.mem_cons, List.not_mem_nil, or_false] at hp
      rcases hp with rfl | rfl | rfl
      · exact Nat.ne_of_gt l1
      · exact Nat.ne_of_gt l2
      · exact Nat.ne_of_gt l3
    have BD : Apart [(x, foldObj w 65 dx f [] 0), (dx, bag0), (f, lamObj1 (stAt 23) lamQual1 c pm cc ctv), (c, co), (cc, oc), ((57 : Addr), tabObj #[])] [(D, ob)] := fun p hp q hq => by
      rw [List.mem_singleton.mp hq]
      simp only [List.mem_cons, List.not_mem_nil, or_false] at hp
      rcases hp with rfl | rfl | rfl | rfl | rfl | rfl
      · exact x1
      · exact d1
      · exact f1
      · exact c1
      · exact k1
      · exact l57 D3
    have B193 : Apart [(x, foldObj w 65 dx f [] 0), (dx, bag0), (f, lamObj1 (stAt 23) lamQual1 c pm cc ctv), (c, co), (cc, oc), ((57 : Addr), tabObj #[])] [((193 : Addr), tabObj ps)] := fun p hp q hq => by
      rw [List.mem_singleton.mp hq]
      simp only [List.mem_cons, List.not_mem_nil, or_false] at hp
      rcases hp with rfl | rfl | rfl | rfl | rfl | rfl
      · exact Nat.ne_of_gt big
      · exact g1
      · exact g2
      · exact g3
      · exact g4
      · exact (show (57 : Nat) ≠ 193 by decide)
    have all : ∀ {a b c d e f g i : List Row}, (Apart a b ∧ Apart a c ∧ Apart a d ∧ Apart a e ∧ Apart a f ∧ Apart a g ∧ Apart a i) → (Apart b c ∧ Apart b d ∧ Apart b e ∧ Apart b f ∧ Apart b g ∧ Apart b i) → (Apart c d ∧ Apart c e ∧ Apart c f ∧ Apart c g ∧ Apart c i) → (Apart d e ∧ Apart d f ∧ Apart d g ∧ Apart d i) → (Apart e f ∧ Apart e g ∧ Apart e i) → (Apart f g ∧ Apart f i) → Apart g i → [a, b, c, d, e, f, g, i].Pairwise Apart := by
      intro a b c d e f g i ha hb hc hd he hf hg
      simp only [List.pairwise_cons, List.mem_cons, List.not_mem_nil, or_false, forall_eq_or_imp, forall_eq, List.Pairwise.nil, and_true]
      exact ⟨ha, hb, hc, hd, he, hf, hg, fun _ h => nomatch h⟩
    exact all ⟨CB, (low e1).1, (low (Nat.le_refl _)).1, (low e4).1, (low e3).1, CD, two (low e2).1 C193⟩
      ⟨(low e1).2.1, (low (Nat.le_refl _)).2.1, (low e4).2.1, (low e3).2.1, BD, two (low e2).2.1 B193⟩
      ⟨one (Nat.ne_of_gt ht), one (Nat.ne_of_lt (up (up hw hW) hf)), one (Nat.ne_of_lt (up hw hW)), ((low e1).2.2).symm, two (one (Nat.ne_of_lt hw)) (h193s e1)⟩
      ⟨one (Nat.ne_of_lt (up (up (up ht hw) hW) hf)), one (Nat.ne_of_lt (up (up ht hw) hW)), ((low (Nat.le_refl _)).2.2).symm, two (one (Nat.ne_of_lt (up ht hw))) (h193s (Nat.le_refl _))⟩
      ⟨one (Nat.ne_of_gt hf), ((low e4).2.2).symm, two (one (Nat.ne_of_gt (up hW hf))) (h193s e4)⟩
      ⟨((low e3).2.2).symm, two (one (Nat.ne_of_gt hW)) (h193s e3)⟩
      (two (low e2).2.2 (one (Nat.ne_of_gt D3)))
/-- the counts of the law -/
theorem counts01 {ks : List Int} : ∀ i, i < ((ks.take 8).map (fun k' : Int => k'.fmod 4096) ++ [1, 8, 62, 466, 709]).length → ∃ n : Nat, ((ks.take 8).map (fun k' : Int => k'.fmod 4096) ++ [1, 8, 62, 466, 709])[i]? = some (n : Int) ∧ n < 4096 := by
  intro i hi
  have hm := List.getElem_mem hi
  have hk : 0 ≤ ((ks.take 8).map (fun k' : Int => k'.fmod 4096) ++ [1, 8, 62, 466, 709])[i] ∧ ((ks.take 8).map (fun k' : Int => k'.fmod 4096) ++ [1, 8, 62, 466, 709])[i] < 4096 := by
    rcases List.mem_append.mp hm with hm | hm
    · obtain ⟨y, _, e⟩ := List.mem_map.mp hm
      rw [← e]
      exact ⟨Int.fmod_nonneg_of_pos _ (by decide), Int.fmod_lt_of_pos _ (by decide)⟩
    · generalize ((ks.take 8).map (fun k' : Int => k'.fmod 4096) ++ [1, 8, 62, 466, 709])[i] = y at hm
      simp only [List.mem_cons, List.not_mem_nil, or_false] at hm
      rcases hm with rfl | rfl | rfl | rfl | rfl <;> decide
  refine ⟨((ks.take 8).map (fun k' : Int => k'.fmod 4096) ++ [1, 8, 62, 466, 709])[i].toNat, ?_, by omega⟩
  rw [List.getElem?_eq_getElem hi, Int.toNat_of_nonneg hk.1]
theorem stop_bd (a : Int) {n : Nat} (h : n ≤ 8) : 2 ≤ 2 + a.fmod (((n + (1 + 1 + 1 + 1 + 1) : Nat) : Int) - 1) ∧ 2 + a.fmod (((n + (1 + 1 + 1 + 1 + 1) : Nat) : Int) - 1) ≤ 13 := by
  have hp : (0 : Int) < ((n + (1 + 1 + 1 + 1 + 1) : Nat) : Int) - 1 := by omega
  have h1 := Int.fmod_nonneg_of_pos a hp
  have h2 := Int.fmod_lt_of_pos a hp
  omega
theorem take8 (ks : List Int) : ((ks.take 8).map (fun k' : Int => k'.fmod 4096)).length ≤ 8 := by
  rw [List.length_map, List.length_take]; omega
end
section
set_option maxHeartbeats 400000
theorem path_len1 {r : Str} (hr : RootOk r) (p : List Str) : (pathR r p).length ≠ 0 := path_len0 hr p
theorem join_name1 {r : Str} (hr : RootOk r) {p : List Str} {n : Str} (h : NameOk n) (hp : NamesOk p) : joinStep (pathR r p) n = pathR r (p ++ [n]) := by
  have hb : (C n).head? ≠ some 47 := fun e => by
    cases hc : C n with
    | nil => exact h.ne hc
    | cons a r => rw [hc] at e; simp at e; exact h.free (by rw [hc, e]; exact .head _)
  have h0 : (pathR r p).length ≠ 0 := path_len0 hr p
  have hj : joinStep (pathR r p) n = if Txt.endswith (pathR r p) sl = true then pathR r p ++ n else pathR r p ++ (sl ++ n) := by
    unfold joinStep
    rw [if_neg (by rw [show Str.ofString "/" = sl from rfl, starts_iff]; intro h; exact h.elim hb h0)]
  have hl : (C r).getLast? = some 47 := by
    rcases hr with rfl | rfl
    · rw [C_sl]; rfl
    · rw [C_dsl]; rfl
  rw [hj]
  by_cases hp0 : p = []
  · subst hp0
    rw [if_pos ((ends_iff _).mpr (by rw [C_path]; simpa [joinL] using hl))]
    refine C_inj ?_
    rw [C_app, C_path, C_path]; simp [joinL]
  · rw [if_neg]
    · refine C_inj ?_
      rw [C_app, C_app, C_path, C_path, C_sl, List.map_append, List.map_singleton, joinL_snoc _ _ (by simpa using hp0)]; simp
    · rw [ends_iff, C_path, List.getLast?_append]
      have h1 := joinL_last hp hp0
      have h2 : joinL (p.map C) ≠ [] := joinL_ne (fun x hx => by obtain ⟨q, hq, rfl⟩ := List.mem_map.mp hx; exact (hp q hq).ne) (by simpa using hp0)
      cases e : (joinL (p.map C)).getLast? with
      | none => exact absurd (List.getLast?_eq_none_iff.mp e) h2
      | some c => rw [e] at h1; simpa using h1
theorem ac_ca {n0 : List Str} (h : A3 n0) : AC (n0 ++ [sc, sa]) := fun n hn => by
  rcases List.mem_append.mp hn with hn | hn
  · exact h.ac n hn
  · simp only [List.mem_cons, List.not_mem_nil, or_false] at hn
    rcases hn with rfl | rfl <;> simp
theorem joins_ca {r : Str} (hr : RootOk r) {n0 : List Str} (h : A3 n0) : [sc, sa].foldl joinStep (pathR r n0) = pathR r (n0 ++ [sc, sa]) := by
  have hc : NameOk sc := (ac_name (by simp)).1
  have ha : NameOk sa := (ac_name (by simp)).1
  have h1 := ac_ok h.ac
  have h2 : NamesOk (n0 ++ [sc]) := fun n hn => by
    rcases List.mem_append.mp hn with hn | hn
    · exact h1 n hn
    · rw [List.mem_singleton.mp hn]; exact hc
  show joinStep (joinStep (pathR r n0) sc) sa = _
  rw [join_name1 hr hc h1, join_name1 hr ha h2, List.append_assoc]; rfl
theorem due_ca {fs : List (List Str)} {n0 : List Str} (h : ∀ q ∈ fs, A3 q) : dueN fs (n0 ++ [sc, sa]) = fs.length + 1 := by
  have hn : n0 ++ [sc, sa] ∉ fs := fun hm => by
    have hc : sc ∈ n0 ++ [sc, sa] := by simp
    rcases h _ hm sc hc with e | e | e <;> exact absurd e (by decide +kernel)
  unfold dueN
  rw [if_neg (by simp), idx_not hn]
theorem pw_three {a b : List Row} {l : List (List Row)} {I C D : Addr} {oI oC oD : Obj} (P : (a :: b :: l).Pairwise Apart) (off : ∀ e ∈ (a :: b :: l).flatten, e.1 ≠ I ∧ e.1 ≠ C ∧ e.1 ≠ D) : (a :: ((I, oI) :: (C, oC) :: (D, oD) :: b) :: l).Pairwise Apart := by
  rw [List.pairwise_cons, List.pairwise_cons] at P ⊢
  have three : ∀ {k : List Row}, k ∈ (a :: b :: l) → Apart k b → Apart k ((I, oI) :: (C, oC) :: (D, oD) :: b) := fun {k} hk h p hp q hq => by
    have o := off p (List.mem_flatten.mpr ⟨k, hk, hp⟩)
    rcases List.mem_cons.mp hq with rfl | hq
    · exact o.1
    · rcases List.mem_cons.mp hq with rfl | hq
      · exact o.2.1
      · rcases List.mem_cons.mp hq with rfl | hq
        · exact o.2.2
        · exact h p hp q hq
  refine ⟨fun k hk => ?_, fun k hk => ?_, P.2.2⟩
  · rcases List.mem_cons.mp hk with rfl | hk
    · exact three (.head _) (P.1 b (.head _))
    · exact P.1 k (.tail _ hk)
  · exact (three (.tail _ (.tail _ hk)) (P.2.1 k hk).symm).symm
theorem pw_drop3 {a b : List Row} {l : List (List Row)} {r1 r2 r3 : Row} (P : (a :: (r1 :: r2 :: r3 :: b) :: l).Pairwise Apart) : (a :: b :: l).Pairwise Apart := by
  rw [List.pairwise_cons, List.pairwise_cons] at P ⊢
  have up : ∀ {e : Row}, e ∈ b → e ∈ r1 :: r2 :: r3 :: b := fun h => .tail _ (.tail _ (.tail _ h))
  refine ⟨fun k hk => ?_, fun k hk p hp q hq => P.2.1 k hk p (up hp) q hq, P.2.2⟩
  rcases List.mem_cons.mp hk with rfl | hk
  · exact fun p hp q hq => P.1 _ (.head _) p hp q (up hq)
  · exact P.1 k (.tail _ hk)
theorem off_three {a b : List Row} {l : List (List Row)} {r1 r2 r3 : Row} (P : (a :: (r1 :: r2 :: r3 :: b) :: l).Pairwise Apart) (hb : ∀ e ∈ b, e.1 ≠ r1.1 ∧ e.1 ≠ r2.1 ∧ e.1 ≠ r3.1) : ∀ e ∈ (b :: a :: l).flatten, e.1 ≠ r1.1 ∧ e.1 ≠ r2.1 ∧ e.1 ≠ r3.1 := fun e he => by
  rw [List.pairwise_cons, List.pairwise_cons] at P
  obtain ⟨k, hk, hek⟩ := List.mem_flatten.mp he
  have key : Apart k (r1 :: r2 :: r3 :: b) → e.1 ≠ r1.1 ∧ e.1 ≠ r2.1 ∧ e.1 ≠ r3.1 := fun h => ⟨h e hek r1 (.head _), h e hek r2 (.tail _ (.head _)), h e hek r3 (.tail _ (.tail _ (.head _)))⟩
  rcases List.mem_cons.mp hk with rfl | hk
  · exact hb e hek
  · rcases List.mem_cons.mp hk with rfl | hk
    · exact key (P.1 _ (.head _))
    · exact key (P.2.1 k hk).symm
section
variable {prog : Program} {wd : World} {A : Around} {E : Value → Shared → Prop} {sh : Shared} {g : Heap} {L : Addr} {m : Str → Option Value} {pre post : List (List Row)}
theorem ext_any {vs ws : List Value} {n n2 : Nat} {X D : Addr} {Q : Value → Shared → Prop} (F : Fr g L sh.heap m) (N : News g L sh.heap (pre ++ [(X, listOf vs.toArray n)] :: post).flatten) (P : (pre ++ [(X, listOf vs.toArray n)] :: post).Pairwise Apart)
    (ND : News g L sh.heap [(D, listOf ws.toArray n2)]) (hD : @Ne Nat D X) (hz : vs.length + ws.length ≤ 1000000)
    (h : ∀ h' n', Fr g L h' m → News g L h' (pre ++ [(X, listOf (vs ++ ws).toArray n')] :: post).flatten → (pre ++ [(X, listOf (vs ++ ws).toArray n')] :: post).Pairwise Apart → Q .none { sh with heap := h' }) :
    wpAny (model prog wd) A (call (.builtin "list.extend") [.ref X, .ref D]) Q E sh := by
  have hap : ∀ q ∈ pre.flatten ++ post.flatten, q.1 ≠ X := by
    have P' := P
    rw [List.pairwise_append] at P'
    have P2 := List.pairwise_cons.mp P'.2.1
    intro q hq
    rcases List.mem_append.mp hq with hq | hq
    · obtain ⟨l, hl, hq⟩ := List.mem_flatten.mp hq
      exact P'.2.2 l hl _ (.head _) q hq _ (.head _)
    · obtain ⟨l, hl, hq⟩ := List.mem_flatten.mp hq
      exact fun e => P2.1 l hl _ (.head _) q hq e.symm
  have hin : ∀ o, ∀ q, q ∈ (pre ++ [(X, o)] :: post).flatten ↔ q = (X, o) ∨ q ∈ pre.flatten ++ post.flatten := fun o q => by
    simp only [List.flatten_append, List.flatten_cons, List.mem_append, List.mem_cons, List.not_mem_nil, or_false]
    constructor
    · rintro (h | h | h)
      · exact .inr (.inl h)
      · exact .inl h
      · exact .inr (.inr h)
    · rintro (h | h | h)
      · exact .inr (.inl h)
      · exact .inl h
      · exact .inr (.inr h)
  refine lextend (news := (X, PySem.W.listOf vs.toArray n) :: (D, PySem.W.listOf ws.toArray n2) :: (pre.flatten ++ post.flatten)) F (fun q hq => ?_) (.tail _ (.head _)) (.head fun q hq => ?_) hz (fun h' n' F' N' => h h' n' F' (fun q hq => N' q ?_) (pw_upd P))
  · rcases List.mem_cons.mp hq with rfl | hq
    · exact N _ ((hin _ _).mpr (.inl rfl))
    · rcases List.mem_cons.mp hq with rfl | hq
      · exact ND _ (.head _)
      · exact N _ ((hin _ _).mpr (.inr hq))
  · rcases List.mem_cons.mp hq with rfl | hq
    · exact hD
    · exact hap q hq
  · rcases (hin _ _).mp hq with rfl | hq
    · exact .head _
    · exact .tail _ (.tail _ hq)
end
section
variable {g h h' : Heap} {L : Addr} {m : Str → Option Value} {C I b : List Row} {t s f w k : Row} {R : List Row}
theorem due_frame (F : Fr g L h m) (N : News g L h (C :: I :: rest7 b t s f w k R).flatten) (P : (C :: I :: rest7 b t s f w k R).Pairwise Apart) (U : Under (hid h (f :: R)) h' (f :: R)) :
    Fr g L h' m ∧ News g L h' (C :: I :: rest7 b t s f w k R).flatten := by
  have hin : ∀ e, e ∈ (C :: I :: rest7 b t s f w k R).flatten ↔ e ∈ (f :: R) ++ (C ++ I ++ b ++ [t, s, w, k]) := fun e => by
    simp only [rest7, List.flatten_cons, List.flatten_nil, List.mem_append, List.mem_cons, List.not_mem_nil, or_false]
    grind
  have N2 : News g L h ((f :: R) ++ (C ++ I ++ b ++ [t, s, w, k])) := fun e he => N e ((hin e).mpr he)
  have two : ∀ {x y : List Row}, x ∈ [C, I, b, [t], [s]] ∨ x ∈ [[w], [k]] → y = [f] ∨ y = R → Apart x y := fun {x y} hx hy => by
    rw [show (C :: I :: rest7 b t s f w k R) = [C, I, b, [t], [s]] ++ ([f] :: ([[w], [k]] ++ [R])) from rfl] at P
    rw [List.pairwise_append] at P
    have P2 := List.pairwise_cons.mp P.2.1
    have P3 := List.pairwise_append.mp P2.2
    rcases hx with hx | hx <;> rcases hy with rfl | rfl
    · exact P.2.2 x hx _ (.head _)
    · exact P.2.2 x hx _ (.tail _ (List.mem_append_right _ (.head _)))
    · exact (P2.1 x (List.mem_append_left _ hx)).symm
    · exact P3.2.2 x hx _ (.head _)
  have ap : ∀ p ∈ C ++ I ++ b ++ [t, s, w, k], ∀ q ∈ f :: R, @Ne Nat q.1 p.1 := fun p hp q hq => by
    obtain ⟨x, hx, hpx⟩ : ∃ x, (x ∈ [C, I, b, [t], [s]] ∨ x ∈ [[w], [k]]) ∧ p ∈ x := by
      simp only [List.mem_append, List.mem_cons, List.not_mem_nil, or_false] at hp
      rcases hp with ((h | h) | h) | (rfl | rfl | rfl | rfl)
      · exact ⟨C, .inl (.head _), h⟩
      · exact ⟨I, .inl (.tail _ (.head _)), h⟩
      · exact ⟨b, .inl (.tail _ (.tail _ (.head _))), h⟩
      · exact ⟨[p], .inl (.tail _ (.tail _ (.tail _ (.head _)))), .head _⟩
      · exact ⟨[p], .inl (.tail _ (.tail _ (.tail _ (.tail _ (.head _))))), .head _⟩
      · exact ⟨[p], .inr (.head _), .head _⟩
      · exact ⟨[p], .inr (.tail _ (.head _)), .head _⟩
    rcases List.mem_cons.mp hq with rfl | hq
    · exact fun e => two hx (.inl rfl) p hpx _ (.head _) e.symm
    · exact fun e => two hx (.inr rfl) p hpx _ hq e.symm
  obtain ⟨F', N'⟩ := under_frame F N2 ap U
  exact ⟨F', fun e he => N' e ((hin e).mp he)⟩
end
theorem datAll_get {R : List Row} : ∀ {vs : List Value} {ds : List Dat} {j : Nat} {v : Value}, DatAll R vs ds → vs[j]? = some v → ∃ d, ds[j]? = some d ∧ DatIn R v d
  | _, _, j, v, .nil, h => by simp at h
  | _, _, 0, v, .cons a r, h => ⟨_, rfl, by simp at h; rw [← h]; exact a⟩
  | _, _, j + 1, v, .cons a r, h => by
    obtain ⟨d, h1, h2⟩ := datAll_get r (by simpa using h)
    exact ⟨d, by simpa using h1, h2⟩
theorem strs_dat {R : List Row} : ∀ {us : List Value} {ns : List Str}, DatAll R us (ns.map .str) → StrsAre us ns
  | _, [], .nil => .nil
  | _, _ :: _, .cons (.str x t) r => .cons x t (strs_dat r)
theorem dat_way {R : List Row} {v : Value} {ns : List Str} (h : DatIn R v (pD ns)) : ∃ a us n, v = .ref a ∧ (a, listOf (us : List Value).toArray n) ∈ R ∧ StrsAre us ns := by
  cases h with
  | list hm hd => exact ⟨_, _, _, rfl, hm, strs_dat hd⟩
theorem range0_small7 {m : Nat} (h : m ≤ 700) : Builtin.Range.small 0 ((m : Nat) : Int) 1 = true := by
  have key : ∀ m : Nat, m < 701 → Builtin.Range.small 0 ((m : Nat) : Int) 1 = true := by decide +kernel
  exact key m (Nat.lt_succ_of_le h)
end
section
set_option maxHeartbeats 400000
theorem sp_items : splitId "dict.items" = some ("dict", "items") := by decide +kernel
theorem kd_items : builtinKind "dict.items" = some .method := by decide +kernel
section
variable {prog : Program} {w : World} {A : Around} {E : Value → Shared → Prop} {K : Frag} {x C dx f : Addr} {od : Option Obj} {h : Heap} {g : Array GenState} {d : Drawn} {t : Nat} {os : OsState} {kids : List Kid} {n : Nat}
/-- items() of a folder: a view -/
theorem fold_items {Q : Value → Shared → Prop} (X : K.In h) (I : InstAt h x (foldObj w C dx f kids n) C od) (hsub : mroIn K C (.type "dict") = some true) (hod : mroIn K C (.type "collections.OrderedDict") = some false) (hxs : (x == sysModules) = false)
    (hq : Q (.ref h.objs.size) ⟨h.push { cls := .type "dict_items", data := .fields #[.ref x] }, g, d, t, os⟩) :
    wpAny (model prog w) A (call (.builtin "dict.items") [.ref x]) Q E ⟨h, g, d, t, os⟩ := by
  have L0 := I.type (M := model prog w)
  have L4 := looks_mroIn (M := model prog w) X hod
  have ha : argsOk "dict.items" ⟨.ref x :: [], []⟩ := F.args_dict_items_1 _
  refine call_on I F.slot_dict_items.plain F.entry_dict_items (.inr kd_items) sp_items ha (looks_mroIn X hsub) ?_
  unfold Builtin.«dict.items» Builtin.Dict.noArgs
  refine wpAny_bind ?_
  repeat (any_goals (first | assumption | refine L0.at ?_ | refine L4.at ?_ | wp_step))
  exact ⟨_, rfl, hq⟩
end
section
variable {prog : Program} {w : World} {A : Around} {E : Value → Shared → Prop} {s : Shared} {od : Obj} {es : Array DictEntry}
theorem fi_iter {v d : Addr} {ep : Nat} {Q : Value → Shared → Prop} (hv : s.heap.IsItemsView v d) (ho : s.heap.get? d = some od) (hdat : od.data = .dict es ep)
    (hQ : Q (.ref s.heap.objs.size) { s with heap := s.heap.push { cls := .type "dict_itemiterator", data := .fields #[.none, .bool false, .ref d, .int 0 0, .int es.size 0, .int ep 0, .none, .none] } }) :
    wpAny (model prog w) A (pyIter (.ref v)) Q E s := by
  obtain ⟨ov, hov, hcv, hdv⟩ := id hv
  refine wpAny_pyIter_slot hv.typeIs F.slot_dict_items_iter (wpAny_call_entry F.slot_dict_items_iter hv.typeIs F.entry_dict_items_iter ?_ (F.args_dict_items_iter_1 _))
  unfold Builtin.«dict_items.__iter__» Builtin.Dict_items.dictOf Builtin.Dict_items.newIterator
  refine wpAny_bind (wpAny_pure (wpAny_bind (wpAny_bind (wpAny_field hov hdv (x := .ref d) rfl (wpAny_pure ?_)))))
  refine wpAny_bind (wpAny_bind (wpAny_dictEntries ho hdat (wpAny_bind (wpAny_dictEpoch ho hdat ?_))))
  have hown : Builtin.Dict_items.ownsTuple "dict_itemiterator" = true := by decide
  simp only [hown, if_true]
  refine wpAny_newObj_type (wpAny_pure ⟨_, rfl, "dict_itemiterator", _, ⟨_, Heap.get?_push_size _ rfl, rfl⟩, F.slot_dict_itemiterator_next.lookup, ?_⟩)
    (by simp only [sizeOk, Builtin.Dict_items.ownedTupleFields, List.size_toArray, List.length_append, List.length_cons, List.length_nil, sizeLine_eq]; omega)
  simpa [rawInt, Builtin.Dict_items.ownedTupleFields] using hQ
theorem fi_next {it d : Addr} {i ep : Nat} {ok ov : Value} {e : DictEntry} {Q : Option Value → Shared → Prop} (hit : IsItemIter s.heap it d i es.size ep ok ov)
    (ho : s.heap.get? d = some od) (hdat : od.data = .dict es ep) (hx : es[i]? = some e)
    (hQ : ∀ h', IsItemIterOut h' it d (i + 1) es.size ep e.key e.val s.heap.objs.size →
      h'.get? s.heap.objs.size = some { cls := .type "tuple", data := .seq #[e.key, e.val] } → h'.objs.size = s.heap.objs.size + 1 →
      (∀ b o, b ≠ it → s.heap.get? b = some o → h'.get? b = some o) → Q (some (.ref s.heap.objs.size)) { s with heap := h' }) :
    wpAny (model prog w) A (pyNext (.ref it)) Q E s := by
  obtain ⟨hp, g, dr, tk, os⟩ := s
  have hT : Shared.TypeIs ⟨hp, g, dr, tk, os⟩ (.ref it) "dict_itemiterator" := ⟨_, hit, rfl⟩
  unfold pyNext
  refine wpAny_bind (wpAny_attempt (wpAny_callSpecial?_slot (name := Str.ofString "__next__") hT F.slot_dict_itemiterator_next
    (wpAny_call_entry F.slot_dict_itemiterator_next hT F.entry_dict_itemiterator_next ?_ (F.args_dict_itemiterator_next_1 _))))
  refine wpAny_bind (wpAny_pure ?_)
  refine wpAny_bind ?_
  refine wpAny_bind ?_
  refine wpAny_bind (wpAny_typeNameOfWhole_itemiter hT (wpAny_pure ?_))
  refine wpAny_bind (wpAny_fieldsOf hit rfl ?_)
  have hown : Builtin.Dict_items.ownsTuple "dict_itemiterator" = true := by decide
  simp only [hown, if_true]
  show wpAny _ _ (if (Value.ref d == Value.none) = true then _ else _) _ _ _
  rw [if_neg (show ¬ ((Value.ref d == Value.none) = true) from Bool.false_ne_true)]
  refine wpAny_bind (wpAny_pure (wpAny_bind (wpAny_dictEntries ho hdat ?_)))
  rw [if_neg (by simp)]
  refine wpAny_bind (wpAny_pure (wpAny_bind (wpAny_dictEpoch ho hdat ?_)))
  rw [if_neg (by simp)]
  refine wpAny_pure ?_
  simp only [show ¬ ((i : Int) < 0) from by omega, if_false, Int.toNat_natCast, hx]
  refine wpAny_bind (wpAny_bind (wpAny_typeNameOfWhole_itemiter hT (wpAny_pure ?_)))
  simp only [hown, if_true]
  refine wpAny_bind (wpAny_isOneOf_itemiter hT ?_)
  show wpAny _ _ (setField (.ref it) 3 (rawInt ((i : Int) + 1)) >>= _) _ _ ⟨hp, g, dr, tk, os⟩
  refine wpAny_bind (wpAny_setField_rec hit (by simp) fun h₁ he₁ hs₁ => ?_)
  replace hs₁ : Heap.SameBut it hp h₁ := hs₁
  replace he₁ : IsItemIter h₁ it d (i + 1) es.size ep ok ov := by
    have e : ((i + 1 : Nat) : Int) = (i : Int) + 1 := by omega
    unfold IsItemIter; rw [e]; simpa [rawInt] using he₁
  have hT₁ : Shared.TypeIs ⟨h₁, g, dr, tk, os⟩ (.ref it) "dict_itemiterator" := ⟨_, he₁, rfl⟩
  refine wpAny_bind (wpAny_holding ?_)
  refine wpAny_bind (wpAny_isOneOf_itemiter hT₁ ?_)
  refine wpAny_bind (wpAny_isOneOf_itemiter hT₁ ?_)
  show wpAny _ _ (Builtin.Dict_items.pairFromOwner (.ref it) 6 e.key e.val) _ _ ⟨h₁, g, dr, tk, os⟩
  unfold Builtin.Dict_items.pairFromOwner
  refine wpAny_bind (wpAny_newTuple ?_)
  have he₂ : IsItemIter (h₁.push { cls := .type "tuple", data := .seq #[e.key, e.val] }) it d (i + 1) es.size ep ok ov := Heap.get?_push_of_some _ he₁
  generalize hh₂ : h₁.push { cls := .type "tuple", data := .seq #[e.key, e.val] } = h₂ at he₂
  have hz₁ : h₁.objs.size = hp.objs.size := hs₁.1
  have hil : it < hp.objs.size := Heap.lt_size hit
  have ht₂ : h₂.get? hp.objs.size = some { cls := .type "tuple", data := .seq #[e.key, e.val] } := by rw [← hh₂, ← hz₁]; exact Heap.get?_push_size _ rfl
  have hz₂ : h₂.objs.size = hp.objs.size + 1 := by rw [← hh₂, Heap.size_push, hz₁]
  have hk₂ : ∀ b o, b ≠ it → hp.get? b = some o → h₂.get? b = some o := fun b o hb e => by rw [← hh₂]; exact Heap.get?_push_of_some _ (hs₁.extBut b o hb e)
  show wpAny _ _ (Builtin.Dict_items.ownedTupleIsFree (.ref it) >>= _) _ _ ⟨h₂, g, dr, tk, os⟩
  rw [hz₁]
  clear hh₂ he₁ hs₁ hT₁ hz₁ h₁
  refine wpAny_bind ?_
  unfold Builtin.Dict_items.ownedTupleIsFree
  refine wpAny_bind (wpAny_field he₂ rfl (x := .none) rfl (wpAny_pure ?_))
  simp only [if_true]
  refine wpAny_bind (wpAny_field he₂ rfl (x := ok) rfl ?_)
  refine wpAny_bind (wpAny_field he₂ rfl (x := ov) rfl ?_)
  refine wpAny_bind (wpAny_setField_rec he₂ (by simp) fun h₃ he₃ hs₃ => ?_)
  replace hs₃ : Heap.SameBut it h₂ h₃ := hs₃
  replace he₃ : IsItemIter h₃ it d (i + 1) es.size ep e.key ov := he₃
  refine wpAny_bind (wpAny_setField_rec he₃ (by simp) fun h₄ he₄ hs₄ => ?_)
  replace hs₄ : Heap.SameBut it h₃ h₄ := hs₄
  replace he₄ : IsItemIter h₄ it d (i + 1) es.size ep e.key e.val := he₄
  refine wpAny_bind (wpAny_setField_rec he₄ (by simp) fun h₅ he₅ hs₅ => ?_)
  replace hs₅ : Heap.SameBut it h₄ h₅ := hs₅
  replace he₅ : IsItemIterOut h₅ it d (i + 1) es.size ep e.key e.val hp.objs.size := he₅
  refine wpAny_bind (wpAny_setField_rec he₅ (by simp) fun h₆ he₆ hs₆ => ?_)
  replace hs₆ : Heap.SameBut it h₅ h₆ := hs₆
  replace he₆ : IsItemIterOut h₆ it d (i + 1) es.size ep e.key e.val hp.objs.size := he₆
  have ks : Heap.SameBut it h₂ h₆ := ((hs₃.trans hs₄).trans hs₅).trans hs₆
  refine wpAny_bind (wpAny_letGo (wpAny_pure (wpAny_pure ⟨_, rfl, wpAny_pure (hQ h₆ he₆ ?_ ?_ ?_)⟩)))
  · exact ks.extBut _ _ (Nat.ne_of_gt hil) ht₂
  · show h₆.objs.size = hp.objs.size + 1
    rw [ks.1, hz₂]
  · exact fun b o hb e => ks.extBut b o hb (hk₂ b o hb e)
theorem fi_end {it d : Addr} {i ep : Nat} {ok ov : Value} {Q : Option Value → Shared → Prop} (hh : A.handled = none) (hit : IsItemIter s.heap it d i es.size ep ok ov)
    (ho : s.heap.get? d = some od) (hdat : od.data = .dict es ep) (hx : es[i]? = none)
    (hQ : ∀ h', Heap.ExtBut it s.heap h' → Q none { s with heap := h' }) : wpAny (model prog w) A (pyNext (.ref it)) Q E s := by
  have hT : s.TypeIs (.ref it) "dict_itemiterator" := ⟨_, hit, rfl⟩
  unfold pyNext
  refine wpAny_bind (wpAny_attempt (wpAny_callSpecial?_slot (name := Str.ofString "__next__") hT F.slot_dict_itemiterator_next
    (wpAny_call_entry F.slot_dict_itemiterator_next hT F.entry_dict_itemiterator_next ?_ (F.args_dict_itemiterator_next_1 _))))
  refine wpAny_bind (wpAny_pure ?_)
  refine wpAny_bind ?_
  refine wpAny_bind ?_
  refine wpAny_bind (wpAny_typeNameOfWhole_itemiter hT (wpAny_pure ?_))
  refine wpAny_bind (wpAny_fieldsOf hit rfl ?_)
  have hown : Builtin.Dict_items.ownsTuple "dict_itemiterator" = true := by decide
  simp only [hown, if_true]
  show wpAny _ _ (if (Value.ref d == Value.none) = true then _ else _) _ _ _
  rw [if_neg (show ¬ ((Value.ref d == Value.none) = true) from Bool.false_ne_true)]
  refine wpAny_bind (wpAny_pure (wpAny_bind (wpAny_dictEntries ho hdat ?_)))
  rw [if_neg (by simp)]
  refine wpAny_bind (wpAny_pure (wpAny_bind (wpAny_dictEpoch ho hdat ?_)))
  rw [if_neg (by simp)]
  refine wpAny_pure ?_
  simp only [show ¬ ((i : Int) < 0) from by omega, if_false, Int.toNat_natCast, hx]
  refine wpAny_bind (wpAny_bind (wpAny_typeNameOfWhole_itemiter hT (wpAny_pure ?_)))
  simp only [hown, if_true]
  show wpAny _ _ (setField (.ref it) 2 .none >>= _) _ _ s
  refine wpAny_bind (wpAny_setField hit rfl (by simp) ?_)
  show wpAny _ _ (newExc (.type "StopIteration") [] >>= _) _ _ _
  refine wpAny_bind ?_
  simp only [newExc, newTuple]
  refine wpAny_bind (wpAny_newObj_type ?_ (by size_fits))
  refine wpAny_bind (m := firstArgMember _ _) (wpAny_of_eq (a := Value.none) (by first | rfl | (simp only [firstArgMember]; rfl)) ?_)
  refine wpAny_newObj_type ?_ (by size_fits)
  simp only [raiseNew]
  refine wpAny_bind (wpAny_handled ?_)
  rw [show A.in1.handled = none from hh]
  refine wpAny_bind (wpAny_pure (wpAny_throw ?_))
  refine wpAny_bind (wpAny_isInstance (T := "StopIteration") (b := true) ⟨_, Heap.get?_push_size _ rfl, rfl⟩ isSubtype_stop ?_)
  exact wpAny_pure (hQ _ (((Heap.SameBut.update ..).extBut.push _).push _))
theorem fi_turns {elts : List Expr} {kk : Nat} {pos : Pos} (hh : A.handled = none) (I d : Addr) (hne : d ≠ I) (ep : Nat) (hdat : od.data = .dict es ep) :
    KTurns prog w A (.Tuple elts kk pos) I [I, d] [I] es.size
      (fun i v h => ∃ T e, v = .ref T ∧ es[i]? = some e ∧ h.IsTuple T #[e.key, e.val])
      (fun i v h => ∃ T e ok ov, v = .ref T ∧ es[i]? = some e ∧ h.IsTuple T #[e.key, e.val] ∧ IsItemIterOut h I d (i + 1) es.size ep ok ov T ∧ h.get? d = some od ∧ T ≠ I)
      (fun i h => (∃ ok ov, IsItemIter h I d i es.size ep ok ov) ∧ h.get? d = some od) where
  sub := fun b hb => by simp at hb; simp [hb]
  frame := fun i h h' st hk => by
    obtain ⟨⟨ok, ov, he⟩, hm⟩ := st
    exact ⟨⟨ok, ov, hk I (by simp) _ he⟩, hk d (by simp) _ hm⟩
  item := fun i s Q E hi st hQ => by
    obtain ⟨⟨ok, ov, he⟩, hm⟩ := st
    have hx : es[i]? = some es[i] := by simp [hi]
    refine fi_next he hm hdat hx fun h' ho hT hsz hk => ?_
    exact hQ (.ref s.heap.objs.size) h' s.toks ⟨s.heap.objs.size, es[i], _, _, rfl, hx, ⟨_, hT, rfl, _, rfl⟩, ho, hk d _ hne hm, Nat.ne_of_gt (Heap.lt_size he)⟩ fun b o hb e => hk b o (fun h => hb (by simp [h])) e
  go := fun i v s Q E hm hQ => by
    obtain ⟨T, e, ok, ov, rfl, hx, hT, ho, hd, hTI⟩ := hm
    refine wpAny_letOwnedTupleGo_items ho fun h' he hs => ?_
    exact hQ h' ⟨T, e, rfl, hx, hT.at fun o e => hs.extBut T o hTI e⟩ ⟨⟨ok, ov, he⟩, hs.extBut d _ hne hd⟩ fun b o hb e => hs.extBut b o (fun h => hb (by simp [h])) e
  done := fun s Q E st hQ => by
    obtain ⟨⟨ok, ov, he⟩, hm⟩ := st
    exact fi_end hh he hm hdat (by simp) fun h' hx => hQ h' s.toks fun b o hb e => hx b o (fun h => hb (by simp [h])) e
end
end
section
set_option maxHeartbeats 400000
/-- what list(..) needs of a thing it takes in; S the list to be, S + 1 the iterator -/
structure LSrc (prog : Program) (w : World) (h0 : Heap) (r : Addr) (T : Value) (oI : Obj) (n : Nat) (St : Nat → List Value → Heap → Prop) (Fi : List Value → Heap → Prop) : Prop where
  lt : r < h0.objs.size
  nf : oI.isFreed = false
  nl : (T == Value.type "list") = false
  nt : (T == Value.type "tuple") = false
  ty : ∀ (A : Around) (E : Value → Shared → Prop) (Q : Value → Shared → Prop) (s : Shared), (∀ b o, h0.get? b = some o → s.heap.get? b = some o) → Q T s → wpAny (model prog w) A (typeOf (.ref r)) Q E s
  iter : ∀ (A : Around) (E : Value → Shared → Prop) (Q : Value → Shared → Prop) (s : Shared), (∀ b o, h0.get? b = some o → s.heap.get? b = some o) → Q (.ref s.heap.objs.size) { s with heap := s.heap.push oI } → wpAny (model prog w) A (pyIter (.ref r)) Q E s
  hint : ∀ (A : Around) (E : Value → Shared → Prop) (Q : Bool → Shared → Prop) (s : Shared), (∀ b o, h0.get? b = some o → s.heap.get? b = some o) → (∀ b tk, Q b { s with toks := tk }) → wpAny (model prog w) A (Builtin.List.listLengthHint (.ref r)) Q E s
  start : ∀ h, (∀ b o, h0.get? b = some o → h.get? b = some o) → h.get? (h0.objs.size + 1) = some oI → St 0 [] h
  frame : ∀ i acc h h', St i acc h → (∀ b o, b ≠ h0.objs.size → h.get? b = some o → h'.get? b = some o) → St i acc h'
  item : ∀ (A : Around) (E : Value → Shared → Prop) i acc (s : Shared) (Q : Option Value → Shared → Prop), i < n → St i acc s.heap →
    (∀ v h' tk, St (i + 1) (acc ++ [v]) h' → (∀ b o, b ≠ h0.objs.size + 1 → s.heap.get? b = some o → h'.get? b = some o) → Q (some v) { s with heap := h', toks := tk }) → wpAny (model prog w) A (pyNext (.ref (h0.objs.size + 1))) Q E s
  done : ∀ (A : Around) (E : Value → Shared → Prop) acc (s : Shared) (Q : Option Value → Shared → Prop), A.handled = none → St n acc s.heap →
    (∀ h' tk, Fi acc h' → (∀ b o, b ≠ h0.objs.size + 1 → s.heap.get? b = some o → h'.get? b = some o) → Q none { s with heap := h', toks := tk }) → wpAny (model prog w) A (pyNext (.ref (h0.objs.size + 1))) Q E s
  len : ∀ i acc h, St i acc h → acc.length = i
section
variable {prog : Program} {w : World} {A : Around} {R : Result → Shared → Prop} {s : Shared} {h0 : Heap} {r : Addr} {T : Value} {oI : Obj} {n : Nat} {St : Nat → List Value → Heap → Prop} {Fi : List Value → Heap → Prop} {res : Value}
theorem lsrc_loop (C : LSrc prog w h0 r T oI n St Fi) (hh : A.handled = none) (hn : n ≤ sizeLine)
    (hR : ∀ h' tk acc c, Fi acc h' → h'.get? h0.objs.size = some { cls := .type "list", dict := none, data := .seq acc.toArray c, slots := #[] } → R (.ok (.ret res)) { s with heap := h', toks := tk }) :
    ∀ (k i : Nat) (h : Heap) (tk c : Nat) (acc : List Value), n - i = k → i ≤ n → St i acc h → h.get? h0.objs.size = some { cls := .type "list", dict := none, data := .seq acc.toArray c, slots := #[] } →
      codeAny (model prog w) A (.builtin "list.extend.loop" ⟨[.ref h0.objs.size, .ref (h0.objs.size + 1), res], []⟩) R { s with heap := h, toks := tk } := by
  have hne : h0.objs.size ≠ h0.objs.size + 1 := Nat.ne_of_lt (Nat.lt_succ_self _)
  intro k
  induction k with
  | zero =>
    intro i h tk c acc hk hi hst hS
    have e : i = n := by omega
    subst e
    refine codeAny_builtin PySem.F.entry_extend_loop ?_
    rw [Around.under_plainId PySem.F.plain_extend_loop _]
    show wpAny _ A.in1 (pyNext (.ref (h0.objs.size + 1)) >>= _) _ _ _
    refine wpAny_bind (C.done A.in1 _ acc { s with heap := h, toks := tk } _ hh hst fun h' tk' hf hk' => ?_)
    exact wpAny_pure (hR h' tk' acc c hf (hk' _ _ hne hS))
  | succ k ih =>
    intro i h tk c acc hk hi hst hS
    have hlt : i < n := by omega
    have hal := C.len i acc h hst
    refine codeAny_builtin PySem.F.entry_extend_loop ?_
    rw [Around.under_plainId PySem.F.plain_extend_loop _]
    show wpAny _ A.in1 (pyNext (.ref (h0.objs.size + 1)) >>= _) _ _ _
    refine wpAny_bind (C.item A.in1 _ i acc { s with heap := h, toks := tk } _ hlt hst fun v h' tk' hst' hk' => ?_)
    have hS' := hk' _ _ hne hS
    have up : ∀ b o, b ≠ h0.objs.size → h'.get? b = some o → (h'.update h0.objs.size (Obj.mapSeq (·.push v))).get? b = some o := fun b o hb e => (Heap.get?_update_other _ _ (Ne.symm hb)).trans e
    show wpAny _ A.in1 (updateSeq h0.objs.size (·.push v) >>= _) _ _ _
    have hs2 := Heap.get?_update_self (Obj.mapSeq (·.push v)) hS' rfl
    refine wpAny_bind ?_
    refine wpAny_updateSeq hS' rfl (wpAny_pure ⟨plainId_quiet PySem.F.plain_extend_loop _, ih (i + 1) _ tk' _ (acc ++ [v]) (by omega) hlt (C.frame _ _ _ _ hst' up) (by rw [hs2]; simp [Obj.mapSeq]; rfl)⟩) (by rw [List.size_toArray, hal]; omega) (by rw [Array.size_push, List.size_toArray, hal]; omega)
theorem lsrc_with (C : LSrc prog w h0 r T oI n St Fi) (hh : A.handled = none) (hn : n ≤ sizeLine) (hk : ∀ b o, h0.get? b = some o → s.heap.get? b = some o) (hz : s.heap.objs.size = h0.objs.size + 1)
    (hS : s.heap.get? h0.objs.size = some { cls := .type "list", dict := none, data := .seq #[] 0, slots := #[] })
    (hR : ∀ h' tk acc c, Fi acc h' → h'.get? h0.objs.size = some { cls := .type "list", dict := none, data := .seq acc.toArray c, slots := #[] } → R (.ok (.ret res)) { s with heap := h', toks := tk }) :
    wpAny (model prog w) A.in1 (Builtin.List.listExtendWith (.ref h0.objs.size) (.ref r) res)
      (fun fin s' => match fin with | .done f => R (.ok f) s' | .again c' => c'.quiet = true ∧ codeAny (model prog w) A c' R s') (fun e s' => R (.error e) s') s := by
  unfold Builtin.List.listExtendWith
  refine wpAny_bind (C.ty _ _ _ s hk ?_)
  have h1 : Builtin.List.listSameRef (.ref h0.objs.size) (.ref r) = false := by simp [Builtin.List.listSameRef, Nat.ne_of_gt C.lt]
  simp only [h1, C.nl, C.nt, Bool.or_false, Bool.false_eq_true, if_false]
  refine wpAny_bind (C.iter _ _ _ s hk ?_)
  have hk1 : ∀ b o, h0.get? b = some o → (s.heap.push oI).get? b = some o := fun b o e => Heap.get?_push_of_some _ (hk b o e)
  refine wpAny_bind (wpAny_holding (C.hint _ _ _ _ hk1 fun b tk => ?_))
  rw [hz]
  have key : ∀ (h : Heap) (c₁ : Nat), (∀ b o, b ≠ h0.objs.size → (s.heap.push oI).get? b = some o → h.get? b = some o) →
      h.get? h0.objs.size = some { cls := .type "list", data := .seq #[] c₁ } → codeAny (model prog w) A (.builtin "list.extend.loop" ⟨[.ref h0.objs.size, .ref (h0.objs.size + 1), res], []⟩) R { s with heap := h, toks := tk } := fun h c₁ hu hS₁ =>
    lsrc_loop C hh hn hR n 0 h tk c₁ [] (Nat.sub_zero _) (Nat.zero_le _) (C.start h (fun b o e => hu b o (Nat.ne_of_lt (Heap.lt_size e)) (hk1 b o e)) (hu _ _ (Nat.ne_of_gt (Nat.lt_succ_self _)) (by rw [← hz]; exact Heap.get?_push_size _ C.nf))) hS₁
  have hS₁ := Heap.get?_push_of_some oI hS
  refine wpAny_ite_split (fun _ => ?_) (fun _ => wpAny_pure ⟨plainId_quiet PySem.F.plain_extend_loop _, key _ _ (fun b o _ e => e) hS₁⟩)
  refine wpAny_bind (wpAny_rule ?_)
  refine wpAny_bind ?_
  show wpAny _ _ (updateSeq h0.objs.size (·.push .none) >>= fun _ => updateSeq h0.objs.size (·.pop)) _ _ _
  refine wpAny_bind ?_
  refine wpAny_updateSeq hS₁ rfl ?_ (by size_fits) (by size_fits)
  have hS₂ := Heap.get?_update_self (Obj.mapSeq (·.push Value.none)) hS₁ rfl
  refine wpAny_updateSeq (hz := by seq_fits) hS₂ rfl ?_
  have hS₃ := Heap.get?_update_self (Obj.mapSeq (·.pop)) hS₂ rfl
  refine wpAny_pure ⟨plainId_quiet PySem.F.plain_extend_loop _, key _ _ (fun b o hb e => ?_) hS₃⟩
  exact (Heap.get?_update_other _ _ (Ne.symm hb)).trans ((Heap.get?_update_other _ _ (Ne.symm hb)).trans e)
/-- list(..) of such a thing -/
theorem lsrc_list {E : Value → Shared → Prop} {Q : Value → Shared → Prop} (C : LSrc prog w s.heap r T oI n St Fi) (hh : A.handled = none) (hn : n ≤ sizeLine)
    (hQ : ∀ h' tk acc c, Fi acc h' → h'.get? s.heap.objs.size = some { cls := .type "list", dict := none, data := .seq acc.toArray c, slots := #[] } → Q (.ref s.heap.objs.size) { s with heap := h', toks := tk }) :
    wpAny (model prog w) A (call (.type "list") [.ref r]) Q E s := by
  refine callType_codes (Q₁ := fun obj s₁ => obj = .ref s.heap.objs.size ∧ s₁ = { s with heap := s.heap.push { cls := .type "list", data := .seq #[] } }) PySem.F.called_list (PySem.F.typeCall_list_1 _) PySem.F.entry_list_init
    (code_list_new _ ⟨rfl, rfl⟩) fun obj s₁ h₁ => ?_
  obtain ⟨rfl, rfl⟩ := h₁
  have hS : (s.heap.push { cls := .type "list", data := .seq #[] }).get? s.heap.objs.size = some { cls := .type "list", data := .seq #[] } := Heap.get?_push_size _ rfl
  refine ⟨⟨_, hS, rfl⟩, PySem.F.args_list_init_2 _ _, ?_⟩
  show wpAny _ _ (do let old ← Builtin.List.listItems (.ref s.heap.objs.size); Builtin.List.listUpdate (.ref s.heap.objs.size) (fun _ => #[]); letGo old.toList.reverse; Builtin.List.listExtendWith (.ref s.heap.objs.size) (.ref r) .none) _ _ _
  refine wpAny_bind ?_
  unfold Builtin.List.listItems
  refine wpAny_bind (wpAny_seqItems hS rfl (wpAny_pure ?_))
  show wpAny _ _ (updateSeq s.heap.objs.size (fun _ => #[]) >>= fun _ => letGo (#[] : Array Value).toList.reverse >>= fun _ => Builtin.List.listExtendWith (.ref s.heap.objs.size) (.ref r) .none) _ _ _
  refine wpAny_bind (wpAny_updateSeq hS rfl ?_)
  have hS₂ := Heap.get?_update_self (Obj.mapSeq (fun _ => (#[] : Array Value))) hS rfl
  refine wpAny_bind (wpAny_letGo ?_)
  refine lsrc_with (A := A.in1) C hh hn (fun b o e => (Heap.get?_update_other _ _ (Ne.symm (Nat.ne_of_lt (Heap.lt_size e)))).trans (Heap.get?_push_of_some _ e)) (by rw [Heap.size_update, Heap.size_push]) hS₂ (fun h' tk acc c hf hl => ?_)
  exact ⟨rfl, hQ h' tk acc c hf hl⟩
end
theorem sp_iter : splitId "dict.__iter__" = some ("dict", "__iter__") := by decide +kernel
theorem kd_iter : builtinKind "dict.__iter__" = some .slot := by decide +kernel
noncomputable def keyV (k : Kid) : Value := .str k.1 k.2.1
section
variable {prog : Program} {w : World} {A : Around} {E : Value → Shared → Prop} {K : Frag} {x C dx f : Addr} {od : Option Obj} {h : Heap} {g : Array GenState} {d : Drawn} {t : Nat} {os : OsState} {kids : List Kid} {n : Nat}
theorem fold_iter {Q : Value → Shared → Prop} (X : K.In h) (I : InstAt h x (foldObj w C dx f kids n) C od) (hit : findIn K (.ref C) "__iter__" = some (some (.builtin "dict.__iter__"))) (hsub : mroIn K C (.type "dict") = some true) (hod : mroIn K C (.type "collections.OrderedDict") = some false) (hxs : (x == sysModules) = false)
    (hq : Q (.ref h.objs.size) ⟨h.push { cls := .type "dict_keyiterator", data := .fields #[.ref x, .int 0 0, .int kids.length 0, .int n 0] }, g, d, t, os⟩) :
    wpAny (model prog w) A (pyIter (.ref x)) Q E ⟨h, g, d, t, os⟩ := by
  have L0 := I.type (M := model prog w)
  have L4 := looks_mroIn (M := model prog w) X hod
  unfold pyIter
  refine wpAny_bind (special_inst X I hit ?_)
  show wpAny _ A (callSpecialIfBoundUnlessNone? (.ref x) "__iter__" _ >>= _) Q E _
  refine wpAny_bind ?_
  simp only [callSpecialIfBoundUnlessNone?, bindSpecialIfBound?]
  refine wpAny_holding (wpAny_bind (wpAny_bind (special_inst X I hit ?_)))
  simp only [F.slot_dict_iter.bind]
  refine wpAny_bind (wpAny_askSetting (wpAny_ite ?_))
  have ha : argsOk "dict.__iter__" ⟨.ref x :: [], []⟩ := F.args_dict_iter_1 _
  have key : ∀ {A : Around} {E : Value → Shared → Prop} {Q : Value → Shared → Prop}, Q (.ref h.objs.size) ⟨h.push { cls := .type "dict_keyiterator", data := .fields #[.ref x, .int 0 0, .int kids.length 0, .int n 0] }, g, d, t, os⟩ →
      wpAny (model prog w) A (call (.builtin "dict.__iter__") [.ref x]) Q E ⟨h, g, d, t, os⟩ := fun {A E Q} hq => by
    refine call_on I F.slot_dict_iter.plain F.entry_dict_iter (.inl kd_iter) sp_iter ha (looks_mroIn X hsub) ?_
    unfold Builtin.«dict.__iter__» Builtin.Dict.dictSlotNone
    repeat (any_goals (first | assumption | refine L0.at ?_ | refine L4.at ?_ | (with_reducible refine wpAny_loadPart_at I.at_ ?_) | wp_step))
    refine ⟨_, rfl, ?_⟩
    have e : (esOf w kids).size = kids.length := by unfold esOf; simp
    rw [← e] at hq
    exact hq
  have nx : ∀ {A : Around} {E : Value → Shared → Prop} {Q : Option Value → Shared → Prop}, Q (some (.builtin "dict_keyiterator.__next__")) ⟨h.push { cls := .type "dict_keyiterator", data := .fields #[.ref x, .int 0 0, .int kids.length 0, .int n 0] }, g, d, t, os⟩ →
      wpAny (model prog w) A (specialOf (.ref h.objs.size) "__next__") Q E ⟨h.push { cls := .type "dict_keyiterator", data := .fields #[.ref x, .int 0 0, .int kids.length 0, .int n 0] }, g, d, t, os⟩ := fun hq =>
    wpAny_specialOf (T := "dict_keyiterator") ⟨_, Heap.get?_push_size _ rfl, rfl⟩ F.slot_dict_keyiterator_next.lookup hq
  have fin : ∀ {A : Around} {E : Value → Shared → Prop} {Q : Option Value → Shared → Prop} {refuse : Sem Value}, Q (some (.ref h.objs.size)) ⟨h.push { cls := .type "dict_keyiterator", data := .fields #[.ref x, .int 0 0, .int kids.length 0, .int n 0] }, g, d, t, os⟩ →
      wpAny (model prog w) A (if (Value.builtin "dict.__iter__" == Value.none) = true then (refuse >>= fun v => pure (some v)) else (call (.builtin "dict.__iter__") [.ref x] >>= fun v => pure (some v))) Q E ⟨h, g, d, t, os⟩ := fun hq => by
    simp only [builtin_beq_none, Bool.false_eq_true, if_false]
    exact wpAny_bind (key (wpAny_pure hq))
  split
  · exact wpAny_bind (wpAny_pure (wpAny_pure (fin (wpAny_bind (nx (wpAny_pure hq))))))
  · exact wpAny_tryCatch (wpAny_bind (wpAny_pure (wpAny_pure (fin (wpAny_bind (nx (wpAny_pure hq)))))))
theorem fold_hint {Q : Bool → Shared → Prop} (X : K.In h) (I : InstAt h x (foldObj w C dx f kids n) C od) (hln : findIn K (.ref C) "__len__" = some (some (.builtin "dict.__len__"))) (hsub : mroIn K C (.type "dict") = some true) (hod : mroIn K C (.type "collections.OrderedDict") = some false) (hxs : (x == sysModules) = false)
    (hz : kids.length ≤ 1000000) (hq : ∀ b tk, Q b ⟨h, g, d, tk, os⟩) : wpAny (model prog w) A (Builtin.List.listLengthHint (.ref x)) Q E ⟨h, g, d, t, os⟩ := by
  have L0 := I.type (M := model prog w)
  have L1 := looks_mroIn (M := model prog w) X hsub
  unfold Builtin.List.listLengthHint
  refine wpAny_bind (special_inst X I hln ?_)
  generalize hid : ("dict.__len__" : String) = id0
  wp_delta
  rw [show splitId id0 = some ("dict", "__len__") from by subst hid; decide +kernel]
  subst hid
  refine wpAny_bind ?_
  unfold isInstance
  refine wpAny_bind (L0.at (L1.at ?_))
  refine wpAny_ite_split (fun hab => absurd hab (by decide)) (fun _ => ?_)
  refine wpAny_ite_split (fun _ => ?_) (fun hab => absurd (by decide +kernel) hab)
  refine wpAny_bind (L0.at ?_)
  dsimp only
  refine wpAny_bind (fold_len X I hln hsub hod hxs hz fun t1 t2 => ?_)
  exact wpAny_bind (wpAny_pure (wpAny_pure (hq _ _)))
theorem fk_next {it : Addr} {i : Nat} {v : Value} {Q : Option Value → Shared → Prop} {s : Shared} (hit : s.heap.IsKeyIter it x i kids.length n) (hx : s.heap.get? x = some (foldObj w C dx f kids n)) (hk : (kids.map keyV)[i]? = some v)
    (hQ : ∀ h', h'.IsKeyIter it x (i + 1) kids.length n → (∀ b o, b ≠ it → s.heap.get? b = some o → h'.get? b = some o) → Q (some v) { s with heap := h' }) :
    wpAny (model prog w) A (pyNext (.ref it)) Q E s := by
  obtain ⟨o, ho, hc, hd⟩ := id hit
  have hsz : (esOf w kids).size = kids.length := by unfold esOf; simp
  unfold pyNext
  refine wpAny_bind (wpAny_attempt (wpAny_callSpecial?_slot (name := Str.ofString "__next__") hit.typeIs F.slot_dict_keyiterator_next
    (wpAny_call_entry F.slot_dict_keyiterator_next hit.typeIs F.entry_dict_keyiterator_next ?_ (F.args_dict_keyiterator_next_1 _))))
  refine wpAny_bind (wpAny_pure (wpAny_bind (wpAny_bind ?_)))
  refine wpAny_bind (wpAny_typeNameOfWhole_keyiter hit.typeIs (wpAny_pure ?_))
  refine wpAny_bind (wpAny_fieldsOf ho hd ?_)
  simp only [show Builtin.Dict_items.ownsTuple "dict_keyiterator" = false by decide, Bool.false_eq_true, if_false]
  show wpAny _ _ (if (Value.ref x == Value.none) = true then _ else _) _ _ s
  rw [if_neg (show ¬ ((Value.ref x == Value.none) = true) from Bool.false_ne_true)]
  refine wpAny_bind (wpAny_pure (wpAny_bind (wpAny_dictEntries hx rfl ?_)))
  rw [if_neg (by rw [hsz]; simp)]
  refine wpAny_bind (wpAny_pure (wpAny_bind (wpAny_dictEpoch hx rfl ?_)))
  rw [if_neg (by simp)]
  refine wpAny_pure ?_
  obtain ⟨k, hk1, rfl⟩ : ∃ k, kids[i]? = some k ∧ keyV k = v := by rw [List.getElem?_map] at hk; exact Option.map_eq_some_iff.mp hk
  have he : (esOf w kids)[i]? = some (entOf w k) := by unfold esOf; rw [List.getElem?_toArray, List.getElem?_map, hk1]; rfl
  simp only [show ¬ ((i : Int) < 0) from by omega, if_false, Int.toNat_natCast, he]
  refine wpAny_bind (wpAny_bind (wpAny_typeNameOfWhole_keyiter hit.typeIs (wpAny_pure ?_)))
  refine wpAny_bind (wpAny_isOneOf_keyiter hit.typeIs ?_)
  show wpAny _ _ (setField (.ref it) 1 (rawInt ((i : Int) + 1)) >>= _) _ _ s
  refine wpAny_bind (wpAny_setField ho hd (by simp) ?_)
  have hit' : (s.heap.update it (Obj.mapFields (·.setIfInBounds 1 (rawInt ((i : Int) + 1))))).IsKeyIter it x (i + 1) kids.length n :=
    ⟨_, Heap.get?_update_self _ ho (Obj.isFreed_of_fields (Obj.data_mapFields hd _)), (Obj.cls_mapFields ..).trans hc, by rw [Obj.data_mapFields hd]; simp [rawInt]⟩
  refine wpAny_bind (wpAny_holding ?_)
  refine wpAny_bind (wpAny_isOneOf_keyiter (s := { s with heap := s.heap.update it (Obj.mapFields (·.setIfInBounds 1 (rawInt ((i : Int) + 1)))) }) hit'.typeIs ?_)
  exact wpAny_pure (wpAny_pure ⟨_, rfl, wpAny_pure (hQ _ hit' fun b o hb e => (Heap.SameBut.update ..).extBut b o hb e)⟩)
theorem fk_end {it : Addr} {i : Nat} {Q : Option Value → Shared → Prop} {s : Shared} (hh : A.handled = none) (hit : s.heap.IsKeyIter it x i kids.length n) (hx : s.heap.get? x = some (foldObj w C dx f kids n)) (hi : kids.length ≤ i)
    (hQ : ∀ h', Heap.ExtBut it s.heap h' → Q none { s with heap := h' }) : wpAny (model prog w) A (pyNext (.ref it)) Q E s := by
  obtain ⟨o, ho, hc, hd⟩ := id hit
  have hsz : (esOf w kids).size = kids.length := by unfold esOf; simp
  unfold pyNext
  refine wpAny_bind (wpAny_attempt (wpAny_callSpecial?_slot (name := Str.ofString "__next__") hit.typeIs F.slot_dict_keyiterator_next
    (wpAny_call_entry F.slot_dict_keyiterator_next hit.typeIs F.entry_dict_keyiterator_next ?_ (F.args_dict_keyiterator_next_1 _))))
  refine wpAny_bind (wpAny_pure (wpAny_bind (wpAny_bind ?_)))
  refine wpAny_bind (wpAny_typeNameOfWhole_keyiter hit.typeIs (wpAny_pure ?_))
  refine wpAny_bind (wpAny_fieldsOf ho hd ?_)
  simp only [show Builtin.Dict_items.ownsTuple "dict_keyiterator" = false by decide, Bool.false_eq_true, if_false]
  show wpAny _ _ (if (Value.ref x == Value.none) = true then _ else _) _ _ s
  rw [if_neg (show ¬ ((Value.ref x == Value.none) = true) from Bool.false_ne_true)]
  refine wpAny_bind (wpAny_pure (wpAny_bind (wpAny_dictEntries hx rfl ?_)))
  rw [if_neg (by rw [hsz]; simp)]
  refine wpAny_bind (wpAny_pure (wpAny_bind (wpAny_dictEpoch hx rfl ?_)))
  rw [if_neg (by simp)]
  refine wpAny_pure ?_
  simp only [show ¬ ((i : Int) < 0) from by omega, if_false, Int.toNat_natCast, Array.getElem?_eq_none (show (esOf w kids).size ≤ i by rw [hsz]; exact hi)]
  refine wpAny_bind (wpAny_bind (wpAny_typeNameOfWhole_keyiter hit.typeIs (wpAny_pure ?_)))
  show wpAny _ _ (setField (.ref it) 0 .none >>= _) _ _ s
  refine wpAny_bind (wpAny_setField ho hd (by simp) ?_)
  show wpAny _ _ (newExc (.type "StopIteration") [] >>= _) _ _ _
  refine wpAny_bind ?_
  simp only [newExc, newTuple]
  refine wpAny_bind (wpAny_newObj_type ?_ (by size_fits))
  refine wpAny_bind (m := firstArgMember _ _) (wpAny_of_eq (a := Value.none) (by first | rfl | (simp only [firstArgMember]; rfl)) ?_)
  refine wpAny_newObj_type ?_ (by size_fits)
  simp only [raiseNew]
  refine wpAny_bind (wpAny_handled ?_)
  rw [show A.in1.handled = none from hh]
  refine wpAny_bind (wpAny_pure (wpAny_throw ?_))
  refine wpAny_bind (wpAny_isInstance (T := "StopIteration") (b := true) ⟨_, Heap.get?_push_size _ rfl, rfl⟩ isSubtype_stop ?_)
  exact wpAny_pure (hQ _ (((Heap.SameBut.update ..).extBut.push _).push _))
theorem inst_keeps {bag : Obj} {h' : Heap} (I : InstAt h x (foldObj w C dx f kids n) C (some bag)) (hk : ∀ b o, h.get? b = some o → h'.get? b = some o) : InstAt h' x (foldObj w C dx f kids n) C (some bag) := ⟨hk _ _ I.at_, rfl, rfl, hk _ _ I.dict⟩
/-- list(..) of the folder itself -/
theorem lsrc_keys {bag : Obj} (X : K.In h) (I : InstAt h x (foldObj w C dx f kids n) C (some bag)) (hit : findIn K (.ref C) "__iter__" = some (some (.builtin "dict.__iter__"))) (hln : findIn K (.ref C) "__len__" = some (some (.builtin "dict.__len__")))
    (hsub : mroIn K C (.type "dict") = some true) (hod : mroIn K C (.type "collections.OrderedDict") = some false) (hxs : (x == sysModules) = false) (hz : kids.length ≤ 1000000) :
    LSrc prog w h x (.ref C) { cls := .type "dict_keyiterator", data := .fields #[.ref x, .int 0 0, .int kids.length 0, .int n 0] } kids.length
      (fun i acc h' => (∀ b o, h.get? b = some o → h'.get? b = some o) ∧ h'.IsKeyIter (h.objs.size + 1) x i kids.length n ∧ i ≤ kids.length ∧ acc = (kids.map keyV).take i)
      (fun acc h' => (∀ b o, h.get? b = some o → h'.get? b = some o) ∧ acc = kids.map keyV) where
  lt := Heap.lt_size I.at_
  nf := rfl
  nl := rfl
  nt := rfl
  ty := fun A E Q s hk hq => (I.type (M := model prog w)) A Q E s hk hq
  iter := fun A E Q s hk hq => by
    obtain ⟨hp, gg, dd, tk, os⟩ := s
    exact fold_iter (X.keeps hk) (inst_keeps I hk) hit hsub hod hxs hq
  hint := fun A E Q s hk hq => by
    obtain ⟨hp, gg, dd, tk, os⟩ := s
    exact fold_hint (X.keeps hk) (inst_keeps I hk) hln hsub hod hxs hz hq
  start := fun h' hk hi => ⟨hk, ⟨_, hi, rfl, rfl⟩, Nat.zero_le _, rfl⟩
  frame := fun i acc h1 h2 hs hk => ⟨fun b o e => hk b o (Nat.ne_of_lt (Heap.lt_size e)) (hs.1 b o e), let ⟨o, ho, r⟩ := hs.2.1; ⟨o, hk _ o (Nat.ne_of_gt (Nat.lt_succ_self _)) ho, r⟩, hs.2.2⟩
  item := fun A E i acc s Q hi ⟨hk, hit, _, ha⟩ hq => by
    obtain ⟨v, hv⟩ : ∃ v, (kids.map keyV)[i]? = some v := ⟨_, List.getElem?_eq_getElem (by rw [List.length_map]; exact hi)⟩
    refine fk_next hit (hk _ _ I.at_) hv fun h' hit' hk' => hq v h' s.toks ⟨fun b o e => hk' b o (Nat.ne_of_lt (Nat.lt_succ_of_lt (Heap.lt_size e))) (hk b o e), hit', hi, ?_⟩ hk'
    rw [ha, List.take_add_one, hv]; rfl
  done := fun A E acc s Q hh ⟨hk, hit, _, ha⟩ hq => fk_end hh hit (hk _ _ I.at_) (Nat.le_refl _) fun h' hk' => hq h' s.toks ⟨fun b o e => hk' b o (Nat.ne_of_lt (Nat.lt_succ_of_lt (Heap.lt_size e))) (hk b o e), by rw [ha, List.take_of_length_le (by rw [List.length_map]; exact Nat.le_refl _)]⟩ hk'
  len := fun i acc h' hs => by rw [hs.2.2.2, List.length_take, List.length_map]; exact Nat.min_eq_left hs.2.2.1
/-- an items iterator of a folder, with whatever in its first two fields -/
noncomputable abbrev ItAt (h : Heap) (it x : Addr) (i m ep : Nat) (x0 x1 ok ov : Value) : Prop :=
  h.get? it = some { cls := .type "dict_itemiterator", dict := none, data := .fields #[x0, x1, .ref x, .int i 0, .int m 0, .int ep 0, ok, ov], slots := #[] }
theorem fx_end {it : Addr} {i : Nat} {x0 x1 ok ov : Value} {Q : Option Value → Shared → Prop} {s : Shared} (hh : A.handled = none) (hit : ItAt s.heap it x i kids.length n x0 x1 ok ov) (hx : s.heap.get? x = some (foldObj w C dx f kids n)) (hi : kids.length ≤ i)
    (hQ : ∀ h', Heap.ExtBut it s.heap h' → Q none { s with heap := h' }) : wpAny (model prog w) A (pyNext (.ref it)) Q E s := by
  have hT : s.TypeIs (.ref it) "dict_itemiterator" := ⟨_, hit, rfl⟩
  have hsz : (esOf w kids).size = kids.length := by unfold esOf; simp
  unfold pyNext
  refine wpAny_bind (wpAny_attempt (wpAny_callSpecial?_slot (name := Str.ofString "__next__") hT F.slot_dict_itemiterator_next
    (wpAny_call_entry F.slot_dict_itemiterator_next hT F.entry_dict_itemiterator_next ?_ (F.args_dict_itemiterator_next_1 _))))
  refine wpAny_bind (wpAny_pure (wpAny_bind (wpAny_bind ?_)))
  refine wpAny_bind (wpAny_typeNameOfWhole_itemiter hT (wpAny_pure ?_))
  refine wpAny_bind (wpAny_fieldsOf hit rfl ?_)
  simp only [show Builtin.Dict_items.ownsTuple "dict_itemiterator" = true by decide, if_true]
  show wpAny _ _ (if (Value.ref x == Value.none) = true then _ else _) _ _ _
  rw [if_neg (show ¬ ((Value.ref x == Value.none) = true) from Bool.false_ne_true)]
  refine wpAny_bind (wpAny_pure (wpAny_bind (wpAny_dictEntries hx rfl ?_)))
  rw [if_neg (by rw [hsz]; simp)]
  refine wpAny_bind (wpAny_pure (wpAny_bind (wpAny_dictEpoch hx rfl ?_)))
  rw [if_neg (by simp)]
  refine wpAny_pure ?_
  simp only [show ¬ ((i : Int) < 0) from by omega, if_false, Int.toNat_natCast, Array.getElem?_eq_none (show (esOf w kids).size ≤ i by rw [hsz]; exact hi)]
  refine wpAny_bind (wpAny_bind (wpAny_typeNameOfWhole_itemiter hT (wpAny_pure ?_)))
  simp only [show Builtin.Dict_items.ownsTuple "dict_itemiterator" = true by decide, if_true]
  show wpAny _ _ (setField (.ref it) 2 .none >>= _) _ _ s
  refine wpAny_bind (wpAny_setField hit rfl (by simp) ?_)
  show wpAny _ _ (newExc (.type "StopIteration") [] >>= _) _ _ _
  refine wpAny_bind ?_
  simp only [newExc, newTuple]
  refine wpAny_bind (wpAny_newObj_type ?_ (by size_fits))
  refine wpAny_bind (m := firstArgMember _ _) (wpAny_of_eq (a := Value.none) (by first | rfl | (simp only [firstArgMember]; rfl)) ?_)
  refine wpAny_newObj_type ?_ (by size_fits)
  simp only [raiseNew]
  refine wpAny_bind (wpAny_handled ?_)
  rw [show A.in1.handled = none from hh]
  refine wpAny_bind (wpAny_pure (wpAny_throw ?_))
  refine wpAny_bind (wpAny_isInstance (T := "StopIteration") (b := true) ⟨_, Heap.get?_push_size _ rfl, rfl⟩ isSubtype_stop ?_)
  exact wpAny_pure (hQ _ (((Heap.SameBut.update ..).extBut.push _).push _))
/-- the iterator ahead of its first turn, or with its last pair still about -/
noncomputable def ItSt (h : Heap) (it x : Addr) (i m ep : Nat) : Prop := (∃ ok ov, ItAt h it x i m ep .none (.bool false) ok ov) ∨ ∃ ok ov a b oa, ItAt h it x i m ep (rawInt (a : Nat)) (.bool b) ok ov ∧ h.get? a = some oa ∧ it < a
theorem ItSt.some {h : Heap} {it x : Addr} {i m ep : Nat} (a : ItSt h it x i m ep) : ∃ x0 x1 ok ov, ItAt h it x i m ep x0 x1 ok ov := by
  rcases a with ⟨ok, ov, e⟩ | ⟨ok, ov, _, _, _, e, _⟩
  · exact ⟨_, _, _, _, e⟩
  · exact ⟨_, _, _, _, e⟩
theorem fx_next {it : Addr} {i : Nat} {k : Kid} {Q : Option Value → Shared → Prop} {s : Shared} (hst : ItSt s.heap it x i kids.length n) (hx : s.heap.get? x = some (foldObj w C dx f kids n)) (hk : kids[i]? = some k)
    (hQ : ∀ h', ItSt h' it x (i + 1) kids.length n → h'.get? s.heap.objs.size = some { cls := .type "tuple", data := .seq #[keyV k, k.2.2] } → it < s.heap.objs.size → (∀ b o, b ≠ it → s.heap.get? b = some o → h'.get? b = some o) → Q (some (.ref s.heap.objs.size)) { s with heap := h' }) :
    wpAny (model prog w) A (pyNext (.ref it)) Q E s := by
  have hsz : (esOf w kids).size = kids.length := by unfold esOf; simp
  have he : (esOf w kids)[i]? = some (entOf w k) := by unfold esOf; rw [List.getElem?_toArray, List.getElem?_map, hk]; rfl
  rcases hst with ⟨ok, ov, hit⟩ | ⟨ok, ov, a, b, oa, hit, ha, hai⟩
  · have hit2 : IsItemIter s.heap it x i (esOf w kids).size n ok ov := by rw [hsz]; exact hit
    refine fi_next hit2 hx rfl he fun h' ho hT _ hk' => hQ h' (.inr ⟨_, _, _, false, _, by rw [hsz] at ho; exact ho, hT, Heap.lt_size hit⟩) hT (Heap.lt_size hit) hk'
  · obtain ⟨hp, gg, dr, tk, os⟩ := s
    have hT : Shared.TypeIs ⟨hp, gg, dr, tk, os⟩ (.ref it) "dict_itemiterator" := ⟨_, hit, rfl⟩
    unfold pyNext
    refine wpAny_bind (wpAny_attempt (wpAny_callSpecial?_slot (name := Str.ofString "__next__") hT F.slot_dict_itemiterator_next
      (wpAny_call_entry F.slot_dict_itemiterator_next hT F.entry_dict_itemiterator_next ?_ (F.args_dict_itemiterator_next_1 _))))
    refine wpAny_bind (wpAny_pure (wpAny_bind (wpAny_bind ?_)))
    refine wpAny_bind (wpAny_typeNameOfWhole_itemiter hT (wpAny_pure ?_))
    refine wpAny_bind (wpAny_fieldsOf hit rfl ?_)
    simp only [show Builtin.Dict_items.ownsTuple "dict_itemiterator" = true by decide, if_true]
    show wpAny _ _ (if (Value.ref x == Value.none) = true then _ else _) _ _ _
    rw [if_neg (show ¬ ((Value.ref x == Value.none) = true) from Bool.false_ne_true)]
    refine wpAny_bind (wpAny_pure (wpAny_bind (wpAny_dictEntries hx rfl ?_)))
    rw [if_neg (by rw [hsz]; simp)]
    refine wpAny_bind (wpAny_pure (wpAny_bind (wpAny_dictEpoch hx rfl ?_)))
    rw [if_neg (by simp)]
    refine wpAny_pure ?_
    simp only [show ¬ ((i : Int) < 0) from by omega, if_false, Int.toNat_natCast, he]
    refine wpAny_bind (wpAny_bind (wpAny_typeNameOfWhole_itemiter hT (wpAny_pure ?_)))
    simp only [show Builtin.Dict_items.ownsTuple "dict_itemiterator" = true by decide, if_true]
    refine wpAny_bind (wpAny_isOneOf_itemiter hT ?_)
    show wpAny _ _ (setField (.ref it) 3 (rawInt ((i : Int) + 1)) >>= _) _ _ ⟨hp, gg, dr, tk, os⟩
    refine wpAny_bind (wpAny_setField_rec hit (by simp) fun h₁ he₁ hs₁ => ?_)
    replace hs₁ : Heap.SameBut it hp h₁ := hs₁
    replace he₁ : ItAt h₁ it x (i + 1) kids.length n (rawInt a) (.bool b) ok ov := by
      have e : ((i + 1 : Nat) : Int) = (i : Int) + 1 := by omega
      unfold ItAt; rw [e]; simpa [rawInt] using he₁
    have hT₁ : Shared.TypeIs ⟨h₁, gg, dr, tk, os⟩ (.ref it) "dict_itemiterator" := ⟨_, he₁, rfl⟩
    refine wpAny_bind (wpAny_holding ?_)
    refine wpAny_bind (wpAny_isOneOf_itemiter hT₁ ?_)
    refine wpAny_bind (wpAny_isOneOf_itemiter hT₁ ?_)
    show wpAny _ _ (Builtin.Dict_items.pairFromOwner (.ref it) 6 (keyV k) k.2.2) _ _ ⟨h₁, gg, dr, tk, os⟩
    unfold Builtin.Dict_items.pairFromOwner
    refine wpAny_bind (wpAny_newTuple ?_)
    have he₂ : ItAt (h₁.push { cls := .type "tuple", data := .seq #[keyV k, k.2.2] }) it x (i + 1) kids.length n (rawInt a) (.bool b) ok ov := Heap.get?_push_of_some _ he₁
    generalize hh₂ : h₁.push { cls := .type "tuple", data := .seq #[keyV k, k.2.2] } = h₂ at he₂
    have hz₁ : h₁.objs.size = hp.objs.size := hs₁.1
    have hil : it < hp.objs.size := Heap.lt_size hit
    have ht₂ : h₂.get? hp.objs.size = some { cls := .type "tuple", data := .seq #[keyV k, k.2.2] } := by rw [← hh₂, ← hz₁]; exact Heap.get?_push_size _ rfl
    have hk₂ : ∀ b o, b ≠ it → hp.get? b = some o → h₂.get? b = some o := fun b o hb e => by rw [← hh₂]; exact Heap.get?_push_of_some _ (hs₁.extBut b o hb e)
    show wpAny _ _ (Builtin.Dict_items.ownedTupleIsFree (.ref it) >>= _) _ _ ⟨h₂, gg, dr, tk, os⟩
    rw [hz₁]
    clear hh₂ he₁ hs₁ hT₁ hz₁ h₁
    have ha₂ : h₂.get? a = some oa := hk₂ a oa (Nat.ne_of_gt hai) ha
    refine wpAny_bind ?_
    unfold Builtin.Dict_items.ownedTupleIsFree
    refine wpAny_bind (wpAny_field he₂ rfl (x := rawInt a) rfl ?_)
    show wpAny _ _ (loadIfAlive ((a : Int).toNat) >>= _) _ _ _
    rw [Int.toNat_natCast]
    refine wpAny_bind (kdx_alive ha₂ ?_)
    simp only [Option.isNone_some, Bool.false_eq_true, if_false]
    refine wpAny_bind (wpAny_field he₂ rfl (x := .bool b) rfl ?_)
    have fin : ∀ h₃ : Heap, ItAt h₃ it x (i + 1) kids.length n (rawInt a) (.bool true) ok ov → Heap.SameBut it h₂ h₃ → Q (some (.ref hp.objs.size)) ⟨h₃, gg, dr, tk, os⟩ := fun h₃ he₃ hs₃ =>
      hQ h₃ (.inr ⟨ok, ov, a, true, oa, he₃, hs₃.extBut _ _ (Nat.ne_of_gt hai) ha₂, hai⟩) (hs₃.extBut _ _ (Nat.ne_of_gt hil) ht₂) hil fun c o hb e => hs₃.extBut c o hb (hk₂ c o hb e)
    cases b with
    | true =>
      rw [if_neg (show ¬ ((Value.bool true != Value.bool true) = true) from Bool.false_ne_true)]
      refine wpAny_pure ?_
      simp only [Bool.false_eq_true, if_false]
      exact wpAny_pure (wpAny_pure ⟨_, rfl, wpAny_pure (fin h₂ he₂ (Heap.SameBut.refl _ _))⟩)
    | false =>
      rw [if_pos (show (Value.bool false != Value.bool true) = true from rfl)]
      refine wpAny_bind (wpAny_setField_rec he₂ (by simp) fun h₃ he₃ hs₃ => ?_)
      refine wpAny_pure ?_
      simp only [Bool.false_eq_true, if_false]
      exact wpAny_pure (wpAny_pure ⟨_, rfl, wpAny_pure (fin h₃ he₃ hs₃)⟩)
/-- the pairs that list(..) took in -/
noncomputable def TupsAt (kids : List Kid) (lo : Nat) (h : Heap) (as : List Addr) : Prop := ∀ (j : Nat) (a : Addr), as[j]? = some a → @LT.lt Nat _ lo a ∧ ∃ k, kids[j]? = some k ∧ h.get? a = some { cls := .type "tuple", data := .seq #[keyV k, k.2.2] }
theorem TupsAt.keep {kids : List Kid} {lo : Nat} {h h' : Heap} {as : List Addr} (T : TupsAt kids lo h as) (hk : ∀ b o, @LT.lt Nat _ lo b → h.get? b = some o → h'.get? b = some o) : TupsAt kids lo h' as := fun j a ha =>
  let ⟨h1, k, h2, h3⟩ := T j a ha; ⟨h1, k, h2, hk a _ h1 h3⟩
/-- list(..) of a view of a folder's pairs -/
theorem lsrc_items {bag : Obj} {vw : Addr} (I : InstAt h x (foldObj w C dx f kids n) C (some bag)) (hv : h.get? vw = some { cls := .type "dict_items", data := .fields #[.ref x] }) :
    LSrc prog w h vw (.type "dict_items") { cls := .type "dict_itemiterator", data := .fields #[.none, .bool false, .ref x, .int 0 0, .int kids.length 0, .int n 0, .none, .none] } kids.length
      (fun i acc h' => (∀ b o, h.get? b = some o → h'.get? b = some o) ∧ ItSt h' (h.objs.size + 1) x i kids.length n ∧ i ≤ kids.length ∧ ∃ as : List Addr, acc = as.map Value.ref ∧ as.length = i ∧ TupsAt kids (h.objs.size + 1) h' as)
      (fun acc h' => (∀ b o, h.get? b = some o → h'.get? b = some o) ∧ ∃ as : List Addr, acc = as.map Value.ref ∧ as.length = kids.length ∧ TupsAt kids (h.objs.size + 1) h' as) where
  lt := Heap.lt_size hv
  nf := rfl
  nl := by decide
  nt := by decide
  ty := fun A E Q s hk hq => wpAny_typeOf (T := "dict_items") ⟨_, hk _ _ hv, rfl⟩ hq
  iter := fun A E Q s hk hq => by
    have hsz : (esOf w kids).size = kids.length := by unfold esOf; simp
    exact fi_iter ⟨_, hk _ _ hv, rfl, rfl⟩ (hk _ _ I.at_) rfl (by rw [hsz]; exact hq)
  hint := fun A E Q s hk hq => kdx_hint ⟨_, hk _ _ hv, rfl⟩ (hq _ _)
  start := fun h' hk hi => ⟨hk, .inl ⟨_, _, hi⟩, Nat.zero_le _, [], rfl, rfl, fun j a ha => by simp at ha⟩
  frame := fun i acc h1 h2 hs hk => by
    obtain ⟨s1, s2, s3, as, s4, s5, s6⟩ := hs
    have up : ∀ b o, @LT.lt Nat _ (h.objs.size + 1) b → h1.get? b = some o → h2.get? b = some o := fun b o hb e => hk b o (Nat.ne_of_gt (Nat.lt_of_succ_lt hb)) e
    have hI := fun o e => hk (h.objs.size + 1) o (Nat.ne_of_gt (Nat.lt_succ_self _)) e
    refine ⟨fun b o e => hk b o (Nat.ne_of_lt (Heap.lt_size e)) (s1 b o e), ?_, s3, as, s4, s5, s6.keep up⟩
    rcases s2 with ⟨ok, ov, e⟩ | ⟨ok, ov, a, b, oa, e, ha, hl⟩
    · exact .inl ⟨ok, ov, hI _ e⟩
    · exact .inr ⟨ok, ov, a, b, oa, hI _ e, up _ _ hl ha, hl⟩
  item := fun A E i acc s Q hi ⟨hk, hit, _, as, ha, hl, hT⟩ hq => by
    obtain ⟨k, hkk⟩ : ∃ k, kids[i]? = some k := ⟨_, List.getElem?_eq_getElem hi⟩
    refine fx_next hit (hk _ _ I.at_) hkk fun h' hit' ht hlt hk' => hq _ h' s.toks ⟨fun b o e => hk' b o (Nat.ne_of_lt (Nat.lt_succ_of_lt (Heap.lt_size e))) (hk b o e), hit', hi, as ++ [s.heap.objs.size], by rw [ha, List.map_append]; rfl, by rw [List.length_append, hl]; rfl, fun j a hj => ?_⟩ hk'
    rcases Nat.lt_trichotomy j as.length with h1 | h1 | h1
    · rw [List.getElem?_append_left h1] at hj
      exact (hT.keep fun b o hb e => hk' b o (Nat.ne_of_gt hb) e) j a hj
    · rw [h1, List.getElem?_append_right (Nat.le_refl _), Nat.sub_self] at hj
      rw [← Option.some.inj hj, h1, hl]
      exact ⟨hlt, k, hkk, ht⟩
    · rw [List.getElem?_eq_none (by rw [List.length_append, List.length_singleton]; omega)] at hj; cases hj
  done := fun A E acc s Q hh ⟨hk, hit, _, as, ha, hl, hT⟩ hq => by
    obtain ⟨x0, x1, ok, ov, e⟩ := hit.some
    exact fx_end hh e (hk _ _ I.at_) (Nat.le_refl _) fun h' hk' => hq h' s.toks ⟨fun b o e => hk' b o (Nat.ne_of_lt (Nat.lt_succ_of_lt (Heap.lt_size e))) (hk b o e), as, ha, hl, hT.keep fun b o hb e => hk' b o (Nat.ne_of_gt hb) e⟩ hk'
  len := fun i acc h' ⟨_, _, _, as, ha, hl, _⟩ => by rw [ha, List.length_map, hl]
end
end
section
set_option maxHeartbeats 400000
theorem bag_or {B : BK} (w : World) : B.bag w = bag0 ∨ ∃ tk v, B.bag w = bagF w tk v := by
  unfold BK.bag; split
  · exact .inl rfl
  · exact .inr ⟨_, _, rfl⟩
theorem book_itemsM : ∀ {w : World} {A : Around} {E : Value → Shared → Prop} {s : Shared} {B : BK} {pl : Sem Bool} {Q : Value × List Value → Shared → Prop} (X : (K1 w.params).In s.heap) (h1 : s.heap.get? B.x = some (B.fold w)) (h2 : s.heap.get? B.dx = some (B.bag w)) (h : Q (.builtin "dict.items", [.ref B.x]) s)
    , wpAny (model PySem.Challenge.rw_il0142_01.row.prog w) A (getMethod (.ref B.x) "items" pl) Q E s := by
  k_fill
  intro w A E s B pl Q X h1 h2 h
  obtain ⟨hh, gg, d, tk, os⟩ := s
  have I : InstAt hh B.x (B.fold w) 65 (some (B.bag w)) := ⟨h1, rfl, rfl, h2⟩
  exact get_method X I rfl (by k_is) (by k_is) (by k_is) PySem.F.type_dict_items (look_bag (bag_or w) (by decide +kernel)) h
theorem new_addr {g h : Heap} {L : Addr} {m : Str → Option Value} (F : Fr g L h m) {a : Addr} (ha : h.objs.size ≤ a) : a ≠ L ∧ g.get? a = none := kdx_fresh F ha
theorem book_view : ∀ {w : World} {A : Around} {E : Value → Shared → Prop} {s : Shared} {B : BK} {g : Heap} {L : Addr} {m : Str → Option Value} {news : List Row} {Q : Value → Shared → Prop} (X : (K1 w.params).In g) (F : Fr g L s.heap m) (N : News g L s.heap news)
    (m1 : (B.x, B.fold w) ∈ news) (m2 : (B.dx, B.bag w) ∈ news) (hb : @LT.lt Nat _ 193 B.x)
    (h : ∀ V h', Fr g L h' m → News g L h' ((V, { cls := .type "dict_items", data := .fields #[.ref B.x] }) :: news) → Q (.ref V) { s with heap := h' })
    , wpAny (model PySem.Challenge.rw_il0142_01.row.prog w) A (call (.builtin "dict.items") [.ref B.x]) Q E s := by
  k_fill
  intro w A E s B g L m news Q X F N m1 m2 hb h
  obtain ⟨hh, gg, d, tk, os⟩ := s
  have I : InstAt hh B.x (B.fold w) 65 (some (B.bag w)) := ⟨(N _ m1).1, rfl, rfl, (N _ m2).1⟩
  exact fold_items (X.keeps F.keep) I (by k_is) (by k_is) (xs_big1 hb) (h _ _ (F.push _) (News.push F N _))
theorem tups_dat {kids : List Kid} {es : List (Str × Nat)} {h : Heap} {lo : Nat} (ka : KA kids es) : ∀ (as : List Addr), as.length = kids.length → TupsAt kids lo h as →
    ∃ rows : List Row, (∀ q ∈ rows, @LT.lt Nat _ lo q.1 ∧ h.get? q.1 = some q.2) ∧ DatAll rows (as.map Value.ref) (es.map fun e => Dat.tuple [.str e.1, .int (e.2 : Nat)]) := by
  induction ka with
  | nil =>
    intro as hl _
    cases as with
    | nil => exact ⟨[], fun q hq => (nomatch hq), .nil⟩
    | cons a r => simp at hl
  | @cons y t n t' ks es ka ih =>
    intro as hl T
    cases as with
    | nil => simp at hl
    | cons a r =>
      obtain ⟨h1, k, h2, h3⟩ := T 0 a rfl
      have h2 := (Option.some.inj h2).symm
      subst h2
      obtain ⟨rows, r1, r2⟩ := ih r (by simpa using hl) fun j b hb => by
        obtain ⟨q1, k, q2, q3⟩ := T (j + 1) b (by simpa using hb)
        exact ⟨q1, k, by simpa using q2, q3⟩
      refine ⟨(a, ({ cls := .type "tuple", data := .seq [Value.str y t, Value.int (n : Int) t'].toArray } : Obj)) :: rows, fun q hq => ?_, .cons (.tuple (vs := [_, _]) (.head _) (.cons (.str _ _) (.cons (.int _ _) .nil))) (r2.mono fun e he => .tail _ he)⟩
      rcases List.mem_cons.mp hq with rfl | hq
      · exact ⟨h1, h3⟩
      · exact r1 q hq
theorem book_pairs : ∀ {w : World} {A : Around} {E : Value → Shared → Prop} {s : Shared} {B : BK} {es : List (Str × Nat)} {g : Heap} {L : Addr} {m : Str → Option Value} {news : List Row} {V : Addr} {Q : Value → Shared → Prop} (hA : A.handled = none) (F : Fr g L s.heap m) (N : News g L s.heap news)
    (m1 : (B.x, B.fold w) ∈ news) (m2 : (B.dx, B.bag w) ∈ news) (mv : (V, { cls := .type "dict_items", data := .fields #[.ref B.x] }) ∈ news) (hl : B.kids.length ≤ 1000) (ka : KA B.kids es)
    (h : ∀ D c h' tk vs rows, Fr g L h' m → News g L h' ((D, listOf (vs : List Value).toArray c) :: (rows ++ news)) → DatAll rows vs (es.map fun e => Dat.tuple [.str e.1, .int (e.2 : Nat)]) → Q (.ref D) { s with heap := h', toks := tk })
    , wpAny (model PySem.Challenge.rw_il0142_01.row.prog w) A (call (.type "list") [.ref V]) Q E s := by
  intro w A E s B es g L m news V Q hA F N m1 m2 mv hl ka h
  have I : InstAt s.heap B.x (B.fold w) 65 (some (B.bag w)) := ⟨(N _ m1).1, rfl, rfl, (N _ m2).1⟩
  refine lsrc_list (lsrc_items I (N _ mv).1) hA (by rw [sizeLine_eq]; omega) (fun h' tk acc c hf hD => ?_)
  obtain ⟨hk, as, rfl, hal, T⟩ := hf
  obtain ⟨rows, r1, r2⟩ := tups_dat ka as hal T
  refine h _ c h' tk _ rows (F.keeps hk) (fun q hq => ?_) r2
  rcases List.mem_cons.mp hq with rfl | hq
  · exact ⟨hD, new_addr F (Nat.le_refl _)⟩
  · rcases List.mem_append.mp hq with hq | hq
    · obtain ⟨q1, q2⟩ := r1 q hq
      exact ⟨q2, new_addr F (Nat.le_of_lt (Nat.lt_of_succ_lt q1))⟩
    · exact ⟨hk _ _ (N q hq).1, (N q hq).2⟩
theorem keyV_strs {kids : List Kid} {es : List (Str × Nat)} (ka : KA kids es) : StrsAre (kids.map keyV) (es.map (·.1)) := by
  induction ka with
  | nil => exact .nil
  | cons y t n t' _ ih => exact .cons y t ih
theorem book_keys : ∀ {w : World} {A : Around} {E : Value → Shared → Prop} {s : Shared} {B : BK} {es : List (Str × Nat)} {g : Heap} {L : Addr} {m : Str → Option Value} {news : List Row} {Q : Value → Shared → Prop} (hA : A.handled = none) (X : (K1 w.params).In g) (F : Fr g L s.heap m) (N : News g L s.heap news)
    (m1 : (B.x, B.fold w) ∈ news) (m2 : (B.dx, B.bag w) ∈ news) (hb : @LT.lt Nat _ 193 B.x) (hl : B.kids.length ≤ 1000) (ka : KA B.kids es)
    (h : ∀ D c h' tk vs, Fr g L h' m → News g L h' ((D, listOf (vs : List Value).toArray c) :: news) → StrsAre vs (es.map (·.1)) → Q (.ref D) { s with heap := h', toks := tk })
    , wpAny (model PySem.Challenge.rw_il0142_01.row.prog w) A (call (.type "list") [.ref B.x]) Q E s := by
  k_fill
  intro w A E s B es g L m news Q hA X F N m1 m2 hb hl ka h
  have I : InstAt s.heap B.x (B.fold w) 65 (some (B.bag w)) := ⟨(N _ m1).1, rfl, rfl, (N _ m2).1⟩
  refine lsrc_list (lsrc_keys (X.keeps F.keep) I (by k_is) (by k_is) (by k_is) (by k_is) (xs_big1 hb) (by omega)) hA (by rw [sizeLine_eq]; omega) (fun h' tk acc c hf hD => ?_)
  obtain ⟨hk, rfl⟩ := hf
  refine h _ c h' tk _ (F.keeps hk) (fun q hq => ?_) (keyV_strs ka)
  rcases List.mem_cons.mp hq with rfl | hq
  · exact ⟨hD, new_addr F (Nat.le_refl _)⟩
  · exact ⟨hk _ _ (N q hq).1, (N q hq).2⟩
end
section
set_option maxHeartbeats 400000
theorem names_ok8 {fs : List (List Str)} (h : ∀ q ∈ fs, AC q) : ∀ d ∈ fs.map pD, kqdOk 8 d = true := fun d hd => by
  obtain ⟨q, hq, rfl⟩ := List.mem_map.mp hd
  show (q.map Dat.str).all (kqdOk 7) = true
  rw [List.all_eq_true]
  intro e he
  obtain ⟨y, hy, rfl⟩ := List.mem_map.mp he
  exact ac_str (h q hq) y hy
theorem key_ok (n : Nat) {nm : Str} (h : NameOk nm) (hs : ∀ c ∈ C nm, c < 0x110000) : PyData.strOk (joinStep (numT n) nm) = true := strOk_C fun c hc => by
  rw [key_C n h] at hc
  rcases List.mem_append.mp hc with hc | hc
  · exact Nat.lt_of_le_of_lt (numT_dig n c hc).2 (by decide)
  · rcases List.mem_cons.mp hc with rfl | hc
    · decide
    · exact hs c hc
theorem EsOk.keyOk {es : List (Str × Nat)} {fs : List (List Str)} (H : EsOk es fs) (ha : ∀ q ∈ fs, AC q) (hl : fs.length ≤ 1000) {e : Str × Nat} (he : e ∈ es) : PyData.strOk e.1 = true ∧ e.1.length ≤ 10000 := by
  obtain ⟨q, n, h1, rfl, h3, h4, h5, h6⟩ := H.mem he
  have hn := ac_name (ha _ h1 n (List.mem_append_right _ (.head _)))
  refine ⟨key_ok _ h4 hn.2.2, ?_⟩
  rw [← C_len, key_C _ h4]
  have h7 : (C (numT (dueN fs q))).length ≤ 10 := by
    rw [C_len]
    exact KT.len_num (n := ((dueN fs q : Nat) : Int)) (Int.natCast_nonneg _) (by have := due_met h3; omega)
  have h8 := hn.2.1
  simp only [List.length_append, List.length_cons]
  omega
noncomputable abbrev pairD (e : Str × Nat) : Dat := .tuple [.str e.1, .int (e.2 : Nat)]
theorem pairs_ok8 {es : List (Str × Nat)} (h : ∀ e ∈ es, PyData.strOk e.1 = true) : ∀ d ∈ es.map pairD, kqdOk 8 d = true := fun d hd => by
  obtain ⟨e, he, rfl⟩ := List.mem_map.mp hd
  show ([Dat.str e.1, Dat.int (e.2 : Nat)]).all (kqdOk 7) = true
  have h1 : kqdOk 7 (.str e.1) = true := h e he
  rw [List.all_cons, List.all_cons, h1]
  rfl
theorem ints_dat {vs : List Value} {ks : List Int} (h : IntsAre vs ks) : DatAll [] vs (ks.map .int) := by
  induction h with
  | nil => exact .nil
  | cons k t _ ih => exact .cons (.int k t) ih
theorem ints_ok8 (ks : List Int) : ∀ d ∈ ks.map Dat.int, kqdOk 8 d = true := fun d hd => by
  obtain ⟨k, _, rfl⟩ := List.mem_map.mp hd
  rfl
section
variable {prog : Program} {w : World} {A : Around} {E : Value → Shared → Prop} {s : Shared} {g : Heap} {L a b : Addr} {news n₁ n₂ : List Row} {xs ys : List Value} {ka kb : Nat} {ds : List Dat} {Q : Value → Shared → Prop}
theorem lists_ne (N : News g L s.heap news) (ma : (a, listOf xs.toArray ka) ∈ news) (Da : DatAll n₁ xs ds) (sa : ∀ p ∈ n₁, p ∈ news) (mb : (b, listOf ys.toArray kb) ∈ news) (Db : DatAll n₂ ys ds) (sb : ∀ p ∈ n₂, p ∈ news)
    (ha : ∀ d ∈ ds, kqdOk 8 d = true) (hu : A.units + 64 < cLine) (h : Q (.bool false) s) : wpAny (model prog w) A (compareOp .NotEq (.ref a) (.ref b)) Q E s := by
  refine kqd_ne N ma rfl rfl Da sa mb rfl rfl Db sb ha ha hu ?_
  simpa using h
theorem lists_eq (N : News g L s.heap news) (ma : (a, listOf xs.toArray ka) ∈ news) (Da : DatAll n₁ xs ds) (sa : ∀ p ∈ n₁, p ∈ news) (mb : (b, listOf ys.toArray kb) ∈ news) (Db : DatAll n₂ ys ds) (sb : ∀ p ∈ n₂, p ∈ news)
    (ha : ∀ d ∈ ds, kqdOk 8 d = true) (hu : A.units + 64 < cLine) (h : Q (.bool true) s) : wpAny (model prog w) A (compareOp .Eq (.ref a) (.ref b)) Q E s := by
  refine kqd_eq N ma rfl rfl Da sa mb rfl rfl Db sb ha ha hu ?_
  simpa using h
end
theorem range1_small7 {m : Nat} (h : m ≤ 700) : Builtin.Range.small 1 (((m : Nat) : Int) + 1) 1 = true := by
  have key : ∀ m : Nat, m < 701 → Builtin.Range.small 1 (((m : Nat) : Int) + 1) 1 = true := by decide +kernel
  exact key m (Nat.lt_succ_of_le h)
theorem range1_size7 {m : Nat} (h : m ≤ 700) : Builtin.Range.rangeSize 1 (((m : Nat) : Int) + 1) 1 = ((m : Nat) : Int) := by
  have key : ∀ m : Nat, m < 701 → Builtin.Range.rangeSize 1 (((m : Nat) : Int) + 1) 1 = ((m : Nat) : Int) := by decide +kernel
  exact key m (Nat.lt_succ_of_le h)
end
section
local macro_rules | `(tactic| walk_at "exec Assign cons ListComp") => `(tactic| (k_here; refine stop ?_))
local macro_rules | `(tactic| walk_at "subscriptTail Name Constant ref int") => `(tactic| (k_here; refine stop ?_))
local macro_rules | `(tactic| walk_at "binaryOp Add ref ref") => `(tactic| (k_here; refine stop ?_))
local macro_rules | `(tactic| walk_at "call builtin:dict.items") => `(tactic| (k_here; refine stop ?_))
local macro_rules | `(tactic| walk_at "call type:list") => `(tactic| (k_here; refine stop ?_))
local macro_rules | `(tactic| walk_at "compareOp NotEq ref ref") => `(tactic| (k_here; refine stop ?_))
local macro_rules | `(tactic| walk_at "compareOp Eq ref ref") => `(tactic| (k_here; refine stop ?_))
local macro_rules | `(tactic| walk_at "call type:str") => `(tactic| (k_here; refine stop ?_))
local macro_rules | `(tactic| walk_at "subscriptTail Name UnaryOp ref int") => `(tactic| (k_here; refine stop ?_))
theorem key_text (n : Nat) {nm : Str} (h : NameOk nm) : Str.ofString (toString ((n : Nat) : Int)) ++ Str.ofString "/" ++ nm = joinStep (numT n) nm := by
  refine C_inj ?_
  rw [key_C n h, C_app, C_app, show C (Str.ofString "/") = [47] from C_sl]
  simp [numT]
theorem strsAre_last {vs : List Value} {q : List Str} {l : Str} (h : StrsAre vs (q ++ [l])) : ∃ us t, vs = us ++ [.str l t] := by
  rcases lsnoc vs with rfl | ⟨us, v, rfl⟩
  · have := strsAre_len h; simp at this
  · obtain ⟨ys, y, t, rfl, e, _⟩ := strsAre_unsnoc h
    obtain ⟨_, e2⟩ := List.append_inj' e rfl
    have e3 : l = y := by simpa using e2
    exact ⟨us, t, by rw [e3]⟩
theorem pw_mid {a b : List Row} {l : List (List Row)} (P : (a :: b :: l).Pairwise Apart) : (a :: [] :: l).Pairwise Apart := by
  rw [List.pairwise_cons, List.pairwise_cons] at P ⊢
  refine ⟨fun k hk => ?_, fun k hk p hp => (nomatch hp), P.2.2⟩
  rcases List.mem_cons.mp hk with rfl | hk
  · exact fun p hp q hq => nomatch hq
  · exact P.1 k (.tail _ hk)
theorem pw_front {a : List Row} {l : List (List Row)} {D : Addr} {o : Obj} (P : (a :: [] :: l).Pairwise Apart) (h : ∀ p ∈ (a :: [] :: l).flatten, @Ne Nat p.1 D) : (a :: [(D, o)] :: l).Pairwise Apart := by
  rw [List.pairwise_cons, List.pairwise_cons] at P ⊢
  refine ⟨fun k hk => ?_, fun k hk p hp q hq => ?_, P.2.2⟩
  · rcases List.mem_cons.mp hk with rfl | hk
    · exact fun p hp q hq => by rw [List.mem_singleton.mp hq]; exact h p (List.mem_flatten.mpr ⟨a, .head _, hp⟩)
    · exact P.1 k (.tail _ hk)
  · rw [List.mem_singleton.mp hp]
    exact fun e => h q (List.mem_flatten.mpr ⟨k, .tail _ (.tail _ hk), hq⟩) e.symm
theorem pw_empty {a : List Row} {l : List (List Row)} (P : (a :: l).Pairwise Apart) : (a :: [] :: l).Pairwise Apart := by
  rw [List.pairwise_cons] at P
  refine List.pairwise_cons.mpr ⟨fun b hb => ?_, List.pairwise_cons.mpr ⟨fun b hb p hp => (nomatch hp), P.2⟩⟩
  rcases List.mem_cons.mp hb with rfl | hb
  · exact fun p hp q hq => nomatch hq
  · exact P.1 b hb
theorem lit_rest6 {K : Frag} {f : Addr} {P : List Stmt → Str → Scope → Prop} {oc od an osl name qual params a1 a2 a3 a4 a5 a6 rest scope dV kV doc pm cdv ct}
    {oc' od' an' osl' name' qual' params' a1' a2' a3' a4' a5' a6' rest' scope' dV' kV' doc' pm' cdv' ct'}
    (h1 : K.lookup f = some ⟨oc, od, .func (fnOf name qual params (a1 :: a2 :: a3 :: a4 :: a5 :: a6 :: rest) scope dV kV doc pm an cdv ct), osl⟩)
    (h2 : K.lookup f = some ⟨oc', od', .func (fnOf name' qual' params' (a1' :: a2' :: a3' :: a4' :: a5' :: a6' :: rest') scope' dV' kV' doc' pm' an' cdv' ct'), osl'⟩)
    (h : P rest' qual' scope') : P rest qual scope := by
  have e := Option.some.inj (h1.symm.trans h2)
  injection e with _ _ e3 _
  injection e3 with e4
  have b1 := congrArg FuncData.body e4
  have b2 : qual = qual' := congrArg FuncData.qualname e4
  have b3 : scope = scope' := congrArg FuncData.scope e4
  simp only [fnOf, FuncBody.stmts.injEq, List.cons.injEq] at b1
  rw [b1.2.2.2.2.2.2, b2, b3]; exact h
theorem tail1_ct : ∀ {w : World} {dp un : Nat} {fr : Option (List Env)} {gd : Option (List Code)} {s : Shared} {Q : Flow → Shared → Prop} {E : Value → Shared → Prop} {c : S1} {m : Nat} {stop : Int} {ts : Tok} {x0 tA sA fA wA cA : Addr} {o1 o3 : Obj} {u : Str → Option Value} {L fa : Addr} {cd : Value} {kvs : List Value} {kn : Nat}
   {p loose mean mg mb} {g : Heap} {oc od an osl name qual params a1 a2 a3 a4 a5 a6 rest scope dV kV doc pm cdv ct}
   (hb : (K1 w.params).lookup 231 = some ⟨oc, od, .func (fnOf name qual params (a1 :: a2 :: a3 :: a4 :: a5 :: a6 :: rest) scope dV kV doc pm an cdv ct), osl⟩)
   (X : (K1 w.params).In g) (TT : Top p loose mean mg mb g) (CH : CodeHd g 61 57)
   (F : Fr g L s.heap (chain (c.ps stop ts tA sA wA cA) u)) (N : News g L s.heap (cells L o1 c.o2 o3 :: c.rest w ((mg "__name__").getD .none) tA sA fA wA cA (listOf kvs.toArray kn)).flatten) (P : (cells L o1 c.o2 o3 :: c.rest w ((mg "__name__").getD .none) tA sA fA wA cA (listOf kvs.toArray kn)).Pairwise Apart)
   (h1 : o1.data = .cell (some (.ref x0))) (h3 : o3.data = .cell (some (.ref fA))) (hok : S1Ok m (m : Nat) stop c x0) (hm : m ≤ 13) (hm1 : 1 ≤ m) (hdp : dp + 250 < 1000) (hu : un + 2000 < 9900)
   (hQ : ∀ h' tk m' ps qs, Fr g L h' m' → News g L h' [(57, tabObj ps), (193, tabObj qs)] → Q (.ret (.bool true)) { s with heap := h', toks := tk })
   , wpAny (model PySem.Challenge.rw_il0142_01.row.prog w) ((Ar dp un fr gd).deeper (envOfC qual scope L fa cd)) (execs rest (envOfC qual scope L fa cd)) Q E s := by
  k_fill
  intro w dp un fr gd s Q E c m stop ts x0 tA sA fA wA cA o1 o3 u L fa cd kvs kn p loose mean mg mb g oc od an osl name qual params a1 a2 a3 a4 a5 a6 rest scope dV kV doc pm cdv ct hb X TT CH F N P h1 h3 hok hm hm1 hdp hu hQ
  refine' lit_rest6 (P := fun b q sc => wpAny (model PySem.Challenge.rw_il0142_01.row.prog w) ((Ar dp un fr gd).deeper (envOfC q sc L fa cd)) (execs b (envOfC q sc L fa cd)) Q E s) hb ?lit ?_
  case lit => k_is
  clear hb
  try dsimp only
  have T := topRead_of TT
  dsimp only [chain, S1.ps] at F
  have h2 := hok.cell
  obtain rfl := hok.x
  have P0 : (cells L o1 c.o2 o3 :: [] :: rest7 (c.B.objs w ((mg "__name__").getD .none)) (tA, PySem.W.listOf c.told.toArray c.tn) (sA, PySem.W.listOf c.spv.toArray c.sn) (fA, PySem.W.listOf c.fv.toArray c.fn) (wA, PySem.W.listOf c.wv.toArray c.wn) (cA, PySem.W.listOf kvs.toArray kn) c.R).Pairwise Apart := pw_empty P
  have N3 : News g L s.heap ((L + 1, o1) :: (L + 1 + 1, c.o2) :: (L + 1 + 1 + 1, o3) :: (rest7 (c.B.objs w ((mg "__name__").getD .none)) (tA, PySem.W.listOf c.told.toArray c.tn) (sA, PySem.W.listOf c.spv.toArray c.sn) (fA, PySem.W.listOf c.fv.toArray c.fn) (wA, PySem.W.listOf c.wv.toArray c.wn) (cA, PySem.W.listOf kvs.toArray kn) c.R).flatten) := N
  clear N P
  try k_fold
  k_steps
  unfold Stop
  rename Fr _ _ _ _ => F1
  rename News _ _ _ _ => N0
  have N1 : News g L _ (cells L o1 c.o2 o3 :: [] :: rest7 (c.B.objs w ((mg "__name__").getD .none)) (tA, PySem.W.listOf c.told.toArray c.tn) (sA, PySem.W.listOf c.spv.toArray c.sn) (fA, PySem.W.listOf c.fv.toArray c.fn) (wA, PySem.W.listOf c.wv.toArray c.wn) (cA, PySem.W.listOf kvs.toArray kn) c.R).flatten := N0
  clear N0
  have mS : ∀ e ∈ c.B.objs w ((mg "__name__").getD .none), e ∈ (cells L o1 c.o2 o3 :: [] :: rest7 (c.B.objs w ((mg "__name__").getD .none)) (tA, PySem.W.listOf c.told.toArray c.tn) (sA, PySem.W.listOf c.spv.toArray c.sn) (fA, PySem.W.listOf c.fv.toArray c.fn) (wA, PySem.W.listOf c.wv.toArray c.wn) (cA, PySem.W.listOf kvs.toArray kn) c.R).flatten := fun e he => mem_b he
  have H := (fr_under F1 N1 mS).hid fun p hp => hp
  have hbg : c.B.bag w = bag0 ∨ ∃ tk v, c.B.bag w = bagF w tk v := by
    unfold BK.bag; split
    · exact .inl rfl
    · exact .inr ⟨_, _, rfl⟩
  refine fold_freeze (X.keeps F1.keep) (N1 (c.B.x, c.B.fold w) (mS _ (.head _))).1 (N1 (c.B.dx, c.B.bag w) (mS _ (.tail _ (.head _)))).1 hbg ?_
  have N3 : News g L _ ((L + 1, o1) :: (L + 1 + 1, c.o2) :: (L + 1 + 1 + 1, o3) :: (rest7 (c.B.objs w ((mg "__name__").getD .none)) (tA, PySem.W.listOf c.told.toArray c.tn) (sA, PySem.W.listOf c.spv.toArray c.sn) (fA, PySem.W.listOf c.fv.toArray c.fn) (wA, PySem.W.listOf c.wv.toArray c.wn) (cA, PySem.W.listOf kvs.toArray kn) c.R).flatten) := N1
  clear N1
  k_steps
  unfold Stop
  rename Fr _ _ _ _ => F1
  rename News _ _ _ _ => N0
  have N1 : News g L _ (cells L o1 c.o2 o3 :: [] :: rest7 (c.B.objs w ((mg "__name__").getD .none)) (tA, PySem.W.listOf c.told.toArray c.tn) (sA, PySem.W.listOf c.spv.toArray c.sn) (fA, PySem.W.listOf c.fv.toArray c.fn) (wA, PySem.W.listOf c.wv.toArray c.wn) (cA, PySem.W.listOf kvs.toArray kn) c.R).flatten := N0
  clear N0
  clear H
  have mS : ∀ e ∈ c.B.objs w ((mg "__name__").getD .none), e ∈ (cells L o1 c.o2 o3 :: [] :: rest7 (c.B.objs w ((mg "__name__").getD .none)) (tA, PySem.W.listOf c.told.toArray c.tn) (sA, PySem.W.listOf c.spv.toArray c.sn) (fA, PySem.W.listOf c.fv.toArray c.fn) (wA, PySem.W.listOf c.wv.toArray c.wn) (cA, PySem.W.listOf kvs.toArray kn) c.R).flatten := fun e he => mem_b he
  have H := (fr_under F1 N1 mS).hid fun p hp => hp
  refine book_freeze (X.keeps H.2) (TT.keeps H.2) (CH.keeps H.2) H.1 hok.bk (by walk_at "my room") (by walk_at "my room") (fun zf h4 tk4 U4 W4 => ?_)
  obtain ⟨F2, N2, P4⟩ := blk_b F1 N1 P0 U4
  have N3 : News g L h4 ((L + 1, o1) :: (L + 1 + 1, c.o2) :: (L + 1 + 1 + 1, o3) :: (rest7 (({ c.B with fz := some zf } : BK).objs w ((mg "__name__").getD .none)) (tA, PySem.W.listOf c.told.toArray c.tn) (sA, PySem.W.listOf c.spv.toArray c.sn) (fA, PySem.W.listOf c.fv.toArray c.fn) (wA, PySem.W.listOf c.wv.toArray c.wn) (cA, PySem.W.listOf kvs.toArray kn) c.R).flatten) := N2
  clear F1 N1 P0 U4 N2
  clear H mS
  k_steps
  unfold Stop
  rename Fr _ _ _ _ => F1
  rename News _ _ _ _ => N0
  have N1 : News g L _ (cells L o1 c.o2 o3 :: [] :: rest7 (({ c.B with fz := some zf } : BK).objs w ((mg "__name__").getD .none)) (tA, PySem.W.listOf c.told.toArray c.tn) (sA, PySem.W.listOf c.spv.toArray c.sn) (fA, PySem.W.listOf c.fv.toArray c.fn) (wA, PySem.W.listOf c.wv.toArray c.wn) (cA, PySem.W.listOf kvs.toArray kn) c.R).flatten := N0
  clear N0
  refine getMethod_list_of PySem.F.slot_list_extend PySem.F.type_list_extend ⟨_, (N1 _ mem_t).1, rfl, _, rfl⟩ ⟨_, (N1 _ mem_t).1, rfl⟩ ?_
  have N3 : News g L _ ((L + 1, o1) :: (L + 1 + 1, c.o2) :: (L + 1 + 1 + 1, o3) :: (rest7 (({ c.B with fz := some zf } : BK).objs w ((mg "__name__").getD .none)) (tA, PySem.W.listOf c.told.toArray c.tn) (sA, PySem.W.listOf c.spv.toArray c.sn) (fA, PySem.W.listOf c.fv.toArray c.fn) (wA, PySem.W.listOf c.wv.toArray c.wn) (cA, PySem.W.listOf kvs.toArray kn) c.R).flatten) := N1
  clear N1
  k_steps
  unfold Stop
  refine LCg.ListComp_U (F₀ := by k_asm) (by with_unfolding_all rfl) (by decide) (by rfl) (by decide) (by rfl) ?_
  k_steps
  unfold Stop
  rename Fr _ _ _ _ => F1
  rename News _ _ _ _ => N0
  have N1 : News g L _ (cells L o1 c.o2 o3 :: [] :: rest7 (({ c.B with fz := some zf } : BK).objs w ((mg "__name__").getD .none)) (tA, PySem.W.listOf c.told.toArray c.tn) (sA, PySem.W.listOf c.spv.toArray c.sn) (fA, PySem.W.listOf c.fv.toArray c.fn) (wA, PySem.W.listOf c.wv.toArray c.wn) (cA, PySem.W.listOf kvs.toArray kn) c.R).flatten := N0
  clear N0
  have hspl := strsAre_len hok.spots
  have hsl := hok.len
  rw [List.length_map] at hspl
  obtain ⟨v0, hv0⟩ : ∃ v, c.spv[0]? = some v := ⟨_, List.getElem?_eq_getElem (by omega)⟩
  obtain ⟨y0, t0, rfl, hy0⟩ := strsAre_get hok.spots hv0
  rw [List.getElem?_map] at hy0
  obtain ⟨⟨r0, n0⟩, hp0, rfl⟩ := Option.map_eq_some_iff.mp hy0
  obtain ⟨hr0, ha0, hl0⟩ := hok.spr (r0, n0) (List.mem_of_getElem? hp0)
  dsimp only at hv0 hr0 ha0 hl0
  have hpl0 := ac_len hr0 ha0.ac
  refine PyProof.Rows.item_listL ⟨_, (N1 _ mem_s).1, rfl, _, rfl⟩ (by decide) (by decide) hv0 ?_
  have N3 : News g L _ ((L + 1, o1) :: (L + 1 + 1, c.o2) :: (L + 1 + 1 + 1, o3) :: (rest7 (({ c.B with fz := some zf } : BK).objs w ((mg "__name__").getD .none)) (tA, PySem.W.listOf c.told.toArray c.tn) (sA, PySem.W.listOf c.spv.toArray c.sn) (fA, PySem.W.listOf c.fv.toArray c.fn) (wA, PySem.W.listOf c.wv.toArray c.wn) (cA, PySem.W.listOf kvs.toArray kn) c.R).flatten) := N1
  clear N1
  k_steps
  unfold Stop
  rename Fr _ _ _ _ => F1
  rename News _ _ _ _ => N1
  refine join_ct (vs := [_, _]) (ys := [sc, sa]) (X.keeps F1.keep) (T.keeps F1.keep) (by walk_at "my room") (by walk_at "my room") (.cons _ _ (.cons _ _ .nil)) (by rw [show ([sc, sa].map fun y => y.length + 1).sum = 4 from by decide +kernel]; omega) (fun t5 h5 tk5 k5 => ?_)
  have F2 := F1.keeps k5
  have N2 := N1.keeps k5
  clear F1 N1 k5
  k_steps
  unfold Stop
  rename Fr _ _ _ _ => F1
  rename News _ _ _ _ => N1
  rw [joins_ca hr0 ha0] at N1
  rename Heap => hq
  have hsv : StrsAre (c.spv ++ [Value.str (pathR r0 (n0 ++ [sc, sa])) t5]) ((c.sp ++ [(r0, n0 ++ [sc, sa])]).map fun p => pathR p.1 p.2) := by
    rw [List.map_append]; exact strsAre_snoc hok.spots _ _
  have mS : (sA, PySem.W.listOf c.spv.toArray c.sn) ∈ (cells L o1 c.o2 o3 :: [] :: rest7 (({ c.B with fz := some zf } : BK).objs w ((mg "__name__").getD .none)) (tA, PySem.W.listOf c.told.toArray c.tn) (sA, PySem.W.listOf c.spv.toArray c.sn) (fA, PySem.W.listOf c.fv.toArray c.fn) (wA, PySem.W.listOf c.wv.toArray c.wn) (cA, PySem.W.listOf kvs.toArray kn) c.R).flatten := mem_s
  refine PyProof.Rows.add_lists (vs := c.spv) (ws := [Value.str (pathR r0 (n0 ++ [sc, sa])) t5]) F1 N1 ⟨_, (N1 _ (.tail _ mS)).1, rfl, _, rfl⟩ ⟨_, (N1 _ (.head _)).1, rfl, _, rfl⟩ (fun h6 F2 N2 => ?_) (by rw [sizeLine_eq]; simp only [List.length_cons, List.length_nil]; omega)
  have P6 : (cells L o1 c.o2 o3 :: [(_, PySem.W.listOf (c.spv ++ [Value.str (pathR r0 (n0 ++ [sc, sa])) t5]).toArray 0)] :: rest7 (({ c.B with fz := some zf } : BK).objs w ((mg "__name__").getD .none)) (tA, PySem.W.listOf c.told.toArray c.tn) (sA, PySem.W.listOf c.spv.toArray c.sn) (fA, PySem.W.listOf c.fv.toArray c.fn) (wA, PySem.W.listOf c.wv.toArray c.wn) (cA, PySem.W.listOf kvs.toArray kn) c.R).Pairwise Apart := pw_front P4 (fun p hp => Nat.ne_of_lt (Heap.lt_size (N1 p (.tail _ hp)).1))
  dsimp only at N2
  have hbd : ∀ e ∈ c.es, e.2 ≤ 2000 := fun e he => by
    obtain ⟨_, _, _, _, _, _, _, h7⟩ := hok.eo.mem he
    have := hok.fl
    omega
  have hesl := hok.eo.len
  have hfl := hok.fl
  have hTl : (c.sp ++ [(r0, n0 ++ [sc, sa])]).length = c.sp.length + 1 := by rw [List.length_append]; rfl
  have N3 : News g L h6 ((hq.objs.size, PySem.W.listOf (c.spv ++ [Value.str (pathR r0 (n0 ++ [sc, sa])) t5]).toArray 0) :: ((L + 1, o1) :: (L + 1 + 1, c.o2) :: (L + 1 + 1 + 1, o3) :: (rest7 (({ c.B with fz := some zf } : BK).objs w ((mg "__name__").getD .none)) (tA, PySem.W.listOf c.told.toArray c.tn) (sA, PySem.W.listOf c.spv.toArray c.sn) (fA, PySem.W.listOf c.fv.toArray c.fn) (wA, PySem.W.listOf c.wv.toArray c.wn) (cA, PySem.W.listOf kvs.toArray kn) c.R).flatten)) := fun e he => N2 e (by
    rcases List.mem_cons.mp he with rfl | he
    · exact .head _
    · exact .tail _ (.tail _ he))
  clear N2 F1 N1 P4 mS
  refine LCg.CompSrc.ledger (its := (c.spv ++ [Value.str (pathR r0 (n0 ++ [sc, sa])) t5]).toArray) rfl F2 N3 (.head _) (by rw [List.size_toArray, sizeLine_eq]; simp only [List.length_append, List.length_cons, List.length_nil]; omega) (fun gg => ?_)
  refine compU_inv (J := fun j ys nw => ∃ kids n', nw = ((hq.objs.size, PySem.W.listOf (c.spv ++ [Value.str (pathR r0 (n0 ++ [sc, sa])) t5]).toArray 0) :: ((L + 1, o1) :: (L + 1 + 1, c.o2) :: (L + 1 + 1 + 1, o3) :: (rest7 (({ c.B with fz := some zf, kids := kids, n := n' } : BK).objs w ((mg "__name__").getD .none)) (tA, PySem.W.listOf c.told.toArray c.tn) (sA, PySem.W.listOf c.spv.toArray c.sn) (fA, PySem.W.listOf c.fv.toArray c.fn) (wA, PySem.W.listOf c.wv.toArray c.wn) (cA, PySem.W.listOf kvs.toArray kn) c.R).flatten)) ∧ (cells L o1 c.o2 o3 :: [(hq.objs.size, PySem.W.listOf (c.spv ++ [Value.str (pathR r0 (n0 ++ [sc, sa])) t5]).toArray 0)] :: rest7 (({ c.B with fz := some zf, kids := kids, n := n' } : BK).objs w ((mg "__name__").getD .none)) (tA, PySem.W.listOf c.told.toArray c.tn) (sA, PySem.W.listOf c.spv.toArray c.sn) (fA, PySem.W.listOf c.fv.toArray c.fn) (wA, PySem.W.listOf c.wv.toArray c.wn) (cA, PySem.W.listOf kvs.toArray kn) c.R).Pairwise Apart ∧ KA kids c.es ∧ kids.length ≤ 1000 ∧ IntsAre ys (((c.sp ++ [(r0, n0 ++ [sc, sa])]).take j).map fun p => (dueN c.fs p.2 : Int))) ⟨c.B.kids, c.B.n, rfl, P6, hok.ka, hok.bk.len, .nil⟩ ?_ ?_
  · rintro ys nw ⟨kids, n', rfl, P7, hka, hkl, hI⟩
    k_steps
    unfold Stop
    rename Fr _ _ _ _ => F1
    rename News _ _ _ _ => N0
    rename_i D5 h8 tk8 hoff
    obtain ⟨_, _, _, _, hoff⟩ := hoff
    have hDt := off1_mem hoff (tA, PySem.W.listOf c.told.toArray c.tn) (List.mem_flatten.mpr ⟨[(tA, PySem.W.listOf c.told.toArray c.tn)], by simp [rest7], .head _⟩)
    rw [List.size_toArray, show (c.spv ++ [Value.str (pathR r0 (n0 ++ [sc, sa])) t5]).length = (c.sp ++ [(r0, n0 ++ [sc, sa])]).length from by rw [hTl, List.length_append, hspl]; rfl, List.take_length] at hI
    have hyl2 := intsAre_len hI
    have htl := intsAre_len hok.told
    rw [List.length_map] at hyl2 htl
    unfold S1.ws at htl
    rw [List.length_map] at htl
    refine ext_any (pre := [cells L o1 c.o2 o3, [(hq.objs.size, PySem.W.listOf (c.spv ++ [Value.str (pathR r0 (n0 ++ [sc, sa])) t5]).toArray 0)], (({ c.B with fz := some zf, kids := kids, n := n' } : BK).objs w ((mg "__name__").getD .none))]) (post := [[(sA, PySem.W.listOf c.spv.toArray c.sn)], [(fA, PySem.W.listOf c.fv.toArray c.fn)], [(wA, PySem.W.listOf c.wv.toArray c.wn)], [(cA, PySem.W.listOf kvs.toArray kn)], c.R]) (X := tA) (vs := c.told) (ws := ys) (n2 := ys.length) F1 (fun e he => N0 e (.tail _ (mem_swap he))) P7 (fun e he => N0 e (by rw [List.mem_singleton.mp he]; exact .head _)) (fun e => hDt e.symm) (by omega) (fun h9 tn' F2 N2 P8 => ?_)
    have P9 : (cells L o1 c.o2 o3 :: [] :: rest7 (({ c.B with fz := some zf, kids := kids, n := n' } : BK).objs w ((mg "__name__").getD .none)) (tA, PySem.W.listOf (c.told ++ ys).toArray tn') (sA, PySem.W.listOf c.spv.toArray c.sn) (fA, PySem.W.listOf c.fv.toArray c.fn) (wA, PySem.W.listOf c.wv.toArray c.wn) (cA, PySem.W.listOf kvs.toArray kn) c.R).Pairwise Apart := pw_mid P8
    have N3 : News g L h9 ((L + 1, o1) :: (L + 1 + 1, c.o2) :: (L + 1 + 1 + 1, o3) :: (rest7 (({ c.B with fz := some zf, kids := kids, n := n' } : BK).objs w ((mg "__name__").getD .none)) (tA, PySem.W.listOf (c.told ++ ys).toArray tn') (sA, PySem.W.listOf c.spv.toArray c.sn) (fA, PySem.W.listOf c.fv.toArray c.fn) (wA, PySem.W.listOf c.wv.toArray c.wn) (cA, PySem.W.listOf kvs.toArray kn) c.R).flatten) := fun e he => N2 e (mem_swap (List.mem_append_right [_] he))
    clear F1 N0 N2 P7 P8 hoff hDt
    k_steps
    unfold Stop
    refine LCg.Assign_ListComp_U (F₀ := by k_asm) (by rfl) (by with_unfolding_all rfl) (by with_unfolding_all rfl) (by decide) (by rfl) (by decide) (by rfl) (by rfl) (by rfl) ?_
    k_steps
    unfold Stop
    rename Fr _ _ _ _ => F1
    rename News _ _ _ _ => N0
    have mW : (wA, PySem.W.listOf c.wv.toArray c.wn) ∈ (cells L o1 c.o2 o3 :: [] :: rest7 (({ c.B with fz := some zf, kids := kids, n := n' } : BK).objs w ((mg "__name__").getD .none)) (tA, PySem.W.listOf (c.told ++ ys).toArray tn') (sA, PySem.W.listOf c.spv.toArray c.sn) (fA, PySem.W.listOf c.fv.toArray c.fn) (wA, PySem.W.listOf c.wv.toArray c.wn) (cA, PySem.W.listOf kvs.toArray kn) c.R).flatten := mem_w
    have hwvl := datAll_len hok.wv
    rw [List.length_map] at hwvl
    unfold S1.ws at hwvl
    rw [List.length_map] at hwvl
    refine LCg.CompSrc.ledger (its := c.wv.toArray) rfl F1 N0 mW (by rw [List.size_toArray, sizeLine_eq]; omega) (fun gg2 => ?_)
    refine compU_inv (J := fun j zs nw => nw = ((L + 1, o1) :: (L + 1 + 1, c.o2) :: (L + 1 + 1 + 1, o3) :: (rest7 (({ c.B with fz := some zf, kids := kids, n := n' } : BK).objs w ((mg "__name__").getD .none)) (tA, PySem.W.listOf (c.told ++ ys).toArray tn') (sA, PySem.W.listOf c.spv.toArray c.sn) (fA, PySem.W.listOf c.fv.toArray c.fn) (wA, PySem.W.listOf c.wv.toArray c.wn) (cA, PySem.W.listOf kvs.toArray kn) c.R).flatten) ∧ IntsAre zs ((c.ws.take j).map fun q => (dueN c.fs q : Int))) ⟨rfl, .nil⟩ ?_ ?_
    · rintro zs nw ⟨rfl, hZ⟩
      k_steps
      unfold Stop
      rename Fr _ _ _ _ => F1
      rename News _ _ _ _ => N0
      rename_i D6 h11 tk11 hoff
      obtain ⟨q1, q2, q3, hoff⟩ := hoff
      have hn6 : ∀ e ∈ (cells L o1 c.o2 o3 :: [] :: rest7 (({ c.B with fz := some zf, kids := kids, n := n' } : BK).objs w ((mg "__name__").getD .none)) (tA, PySem.W.listOf (c.told ++ ys).toArray tn') (sA, PySem.W.listOf c.spv.toArray c.sn) (fA, PySem.W.listOf c.fv.toArray c.fn) (wA, PySem.W.listOf c.wv.toArray c.wn) (cA, PySem.W.listOf kvs.toArray kn) c.R).flatten, @Ne Nat e.1 D6 := fun e he => by
        rcases List.mem_cons.mp he with rfl | he
        · exact q1
        · rcases List.mem_cons.mp he with rfl | he
          · exact q2
          · rcases List.mem_cons.mp he with rfl | he
            · exact q3
            · exact off1_mem hoff e he
      have P11 : (cells L o1 c.o2 o3 :: [] :: rest7 (({ c.B with fz := some zf, kids := kids, n := n' } : BK).objs w ((mg "__name__").getD .none)) (tA, PySem.W.listOf (c.told ++ ys).toArray tn') (sA, PySem.W.listOf c.spv.toArray c.sn) (fA, PySem.W.listOf c.fv.toArray c.fn) (wA, PySem.W.listOf c.wv.toArray c.wn) (cA, PySem.W.listOf kvs.toArray kn) (c.R ++ [(D6, PySem.W.listOf zs.toArray zs.length)])).Pairwise Apart := pw_snoc P9 hn6
      have N3 : News g L h11 ((L + 1, o1) :: (L + 1 + 1, c.o2) :: (L + 1 + 1 + 1, o3) :: (rest7 (({ c.B with fz := some zf, kids := kids, n := n' } : BK).objs w ((mg "__name__").getD .none)) (tA, PySem.W.listOf (c.told ++ ys).toArray tn') (sA, PySem.W.listOf c.spv.toArray c.sn) (fA, PySem.W.listOf c.fv.toArray c.fn) (wA, PySem.W.listOf c.wv.toArray c.wn) (cA, PySem.W.listOf kvs.toArray kn) (c.R ++ [(D6, PySem.W.listOf zs.toArray zs.length)])).flatten) := fun e he => by
        have he : e ∈ (cells L o1 c.o2 o3 :: [] :: rest7 (({ c.B with fz := some zf, kids := kids, n := n' } : BK).objs w ((mg "__name__").getD .none)) (tA, PySem.W.listOf (c.told ++ ys).toArray tn') (sA, PySem.W.listOf c.spv.toArray c.sn) (fA, PySem.W.listOf c.fv.toArray c.fn) (wA, PySem.W.listOf c.wv.toArray c.wn) (cA, PySem.W.listOf kvs.toArray kn) (c.R ++ [(D6, PySem.W.listOf zs.toArray zs.length)])).flatten := he
        rw [led_snoc] at he
        rcases List.mem_append.mp he with he | he
        · exact N0 e (.tail _ he)
        · rw [List.mem_singleton.mp he]; exact N0 _ (.head _)
      clear N0 q1 q2 q3 hoff hn6
      dsimp only at F1
      refine LCg.Assign_ListComp_U (F₀ := by k_asm) (by rfl) (by with_unfolding_all rfl) (by with_unfolding_all rfl) (by decide) (by rfl) (by decide) (by rfl) (by rfl) (by rfl) ?_
      k_steps
      unfold Stop
      rename Fr _ _ _ _ => F1
      rename News _ _ _ _ => N0
      have hfvl := datAll_len hok.fv
      rw [List.length_map] at hfvl
      have N1 : News g L _ (cells L o1 c.o2 o3 :: [] :: rest7 (({ c.B with fz := some zf, kids := kids, n := n' } : BK).objs w ((mg "__name__").getD .none)) (tA, PySem.W.listOf (c.told ++ ys).toArray tn') (sA, PySem.W.listOf c.spv.toArray c.sn) (fA, PySem.W.listOf c.fv.toArray c.fn) (wA, PySem.W.listOf c.wv.toArray c.wn) (cA, PySem.W.listOf kvs.toArray kn) (c.R ++ [(D6, PySem.W.listOf zs.toArray zs.length)])).flatten := N0
      refine PyProof.Rows.len_list ⟨_, (N1 _ mem_f).1, rfl, _, rfl⟩ (by rw [List.size_toArray]; omega) ?_
      clear N1
      rw [List.size_toArray, hfvl]
      k_steps
      unfold Stop
      rename Fr _ _ _ _ => F1
      rename News _ _ _ _ => N0
      rename IsRange _ _ _ _ _ _ _ _ => hr
      refine LCg.CompSrc.range (n := c.fs.length) rfl F1 N0 hr (range0_small7 (by omega)) (range0_size _) (by rw [sizeLine_eq]; omega) (fun gg3 => ?_)
      clear F1 N0
      refine compU_inv (J := fun j xs nw => ∃ RR, nw = ((L + 1, o1) :: (L + 1 + 1, c.o2) :: (L + 1 + 1 + 1, o3) :: (rest7 (({ c.B with fz := some zf, kids := kids, n := n' } : BK).objs w ((mg "__name__").getD .none)) (tA, PySem.W.listOf (c.told ++ ys).toArray tn') (sA, PySem.W.listOf c.spv.toArray c.sn) (fA, PySem.W.listOf c.fv.toArray c.fn) (wA, PySem.W.listOf c.wv.toArray c.wn) (cA, PySem.W.listOf kvs.toArray kn) RR).flatten) ∧ (cells L o1 c.o2 o3 :: [] :: rest7 (({ c.B with fz := some zf, kids := kids, n := n' } : BK).objs w ((mg "__name__").getD .none)) (tA, PySem.W.listOf (c.told ++ ys).toArray tn') (sA, PySem.W.listOf c.spv.toArray c.sn) (fA, PySem.W.listOf c.fv.toArray c.fn) (wA, PySem.W.listOf c.wv.toArray c.wn) (cA, PySem.W.listOf kvs.toArray kn) RR).Pairwise Apart ∧ (∀ e ∈ (c.R ++ [(D6, PySem.W.listOf zs.toArray zs.length)]), e ∈ RR) ∧ DatAll RR xs ((c.es.take j).map fun e => Dat.tuple [.str e.1, .int (e.2 : Nat)])) ⟨_, rfl, P11, fun e he => he, .nil⟩ ?_ ?_
      · rintro xs nw ⟨RR, rfl, P12, hRM, hX⟩
        rw [← hesl, List.take_length] at hX
        k_steps
        unfold Stop
        rename Fr _ _ _ _ => F1
        rename News _ _ _ _ => N0
        rename_i D9 h15 tk15 off9
        have mB : ∀ e ∈ (({ c.B with fz := some zf, kids := kids, n := n' } : BK).objs w ((mg "__name__").getD .none)), e ∈ ((D9, LCg.lst xs) :: ((L + 1, o1) :: (L + 1 + 1, c.o2) :: (L + 1 + 1 + 1, o3) :: (rest7 (({ c.B with fz := some zf, kids := kids, n := n' } : BK).objs w ((mg "__name__").getD .none)) (tA, PySem.W.listOf (c.told ++ ys).toArray tn') (sA, PySem.W.listOf c.spv.toArray c.sn) (fA, PySem.W.listOf c.fv.toArray c.fn) (wA, PySem.W.listOf c.wv.toArray c.wn) (cA, PySem.W.listOf kvs.toArray kn) RR).flatten)) := fun e he => .tail _ (show e ∈ (cells L o1 c.o2 o3 :: [] :: rest7 (({ c.B with fz := some zf, kids := kids, n := n' } : BK).objs w ((mg "__name__").getD .none)) (tA, PySem.W.listOf (c.told ++ ys).toArray tn') (sA, PySem.W.listOf c.spv.toArray c.sn) (fA, PySem.W.listOf c.fv.toArray c.fn) (wA, PySem.W.listOf c.wv.toArray c.wn) (cA, PySem.W.listOf kvs.toArray kn) RR).flatten from mem_b he)
        have mB1 := mB (c.B.x, (({ c.B with fz := some zf, kids := kids, n := n' } : BK)).fold w) (.head _)
        have mB2 := mB (c.B.dx, (({ c.B with fz := some zf, kids := kids, n := n' } : BK)).bag w) (.tail _ (.head _))
        refine book_itemsM (B := ({ c.B with fz := some zf, kids := kids, n := n' } : BK)) (X.keeps F1.keep) (N0 _ mB1).1 (N0 _ mB2).1 ?_
        k_steps
        unfold Stop
        rename Fr _ _ _ _ => F1
        rename News _ _ _ _ => N0
        refine book_view (B := ({ c.B with fz := some zf, kids := kids, n := n' } : BK)) X F1 N0 mB1 mB2 W4.big (fun V h16 F2 N2 => ?_)
        clear F1 N0
        k_steps
        unfold Stop
        rename Fr _ _ _ _ => F1
        rename News _ _ _ _ => N0
        refine book_pairs (B := ({ c.B with fz := some zf, kids := kids, n := n' } : BK)) rfl F1 N0 (.tail _ mB1) (.tail _ mB2) (.head _) hkl hka (fun D10 c10 h17 tk17 vs rows F2 N2 hV => ?_)
        clear F1
        have N3 : News g L h17 ((D9, LCg.lst xs) :: ((L + 1, o1) :: (L + 1 + 1, c.o2) :: (L + 1 + 1 + 1, o3) :: (rest7 (({ c.B with fz := some zf, kids := kids, n := n' } : BK).objs w ((mg "__name__").getD .none)) (tA, PySem.W.listOf (c.told ++ ys).toArray tn') (sA, PySem.W.listOf c.spv.toArray c.sn) (fA, PySem.W.listOf c.fv.toArray c.fn) (wA, PySem.W.listOf c.wv.toArray c.wn) (cA, PySem.W.listOf kvs.toArray kn) RR).flatten)) := fun e he => N2 e (.tail _ (List.mem_append_right _ (.tail _ he)))
        have mV : ∀ e ∈ ((D10, PySem.W.listOf vs.toArray c10) :: rows), e ∈ ((D10, PySem.W.listOf vs.toArray c10) :: rows) ++ ((D9, LCg.lst xs) :: ((L + 1, o1) :: (L + 1 + 1, c.o2) :: (L + 1 + 1 + 1, o3) :: (rest7 (({ c.B with fz := some zf, kids := kids, n := n' } : BK).objs w ((mg "__name__").getD .none)) (tA, PySem.W.listOf (c.told ++ ys).toArray tn') (sA, PySem.W.listOf c.spv.toArray c.sn) (fA, PySem.W.listOf c.fv.toArray c.fn) (wA, PySem.W.listOf c.wv.toArray c.wn) (cA, PySem.W.listOf kvs.toArray kn) RR).flatten)) := fun e he => List.mem_append_left _ he
        have hac : ∀ q ∈ c.fs, AC q := fun q hq => (hok.a3f q hq).1.ac
        clear mV
        k_steps
        unfold Stop
        refine lists_ne N2 (.head _) hV (fun e he => .tail _ (List.mem_append_left _ he)) (.tail _ (List.mem_append_right _ (.tail _ (.head _)))) hX (fun e he => .tail _ (List.mem_append_right _ (.tail _ (.tail _ (show e ∈ (cells L o1 c.o2 o3 :: [] :: rest7 (({ c.B with fz := some zf, kids := kids, n := n' } : BK).objs w ((mg "__name__").getD .none)) (tA, PySem.W.listOf (c.told ++ ys).toArray tn') (sA, PySem.W.listOf c.spv.toArray c.sn) (fA, PySem.W.listOf c.fv.toArray c.fn) (wA, PySem.W.listOf c.wv.toArray c.wn) (cA, PySem.W.listOf kvs.toArray kn) RR).flatten from mem_R he))))) (pairs_ok8 fun e he => (hok.eo.keyOk hac (by omega) he).1) (show _ < 9900 by walk_at "my room") ?_
        clear N2 hV hX N0 hr
        k_steps
        unfold Stop
        refine LCg.ListComp_U (F₀ := by k_asm) (by with_unfolding_all rfl) (by decide) (by rfl) (by decide) (by rfl) ?_
        k_steps
        unfold Stop
        rename Fr _ _ _ _ => F1
        rename News _ _ _ _ => N0
        refine PyProof.Rows.len_list ⟨_, (N0 _ (.tail _ (show (fA, PySem.W.listOf c.fv.toArray c.fn) ∈ (cells L o1 c.o2 o3 :: [] :: rest7 (({ c.B with fz := some zf, kids := kids, n := n' } : BK).objs w ((mg "__name__").getD .none)) (tA, PySem.W.listOf (c.told ++ ys).toArray tn') (sA, PySem.W.listOf c.spv.toArray c.sn) (fA, PySem.W.listOf c.fv.toArray c.fn) (wA, PySem.W.listOf c.wv.toArray c.wn) (cA, PySem.W.listOf kvs.toArray kn) RR).flatten from mem_f))).1, rfl, _, rfl⟩ (by rw [List.size_toArray]; omega) ?_
        rw [List.size_toArray, hfvl]
        k_steps
        unfold Stop
        rename Fr _ _ _ _ => F1
        rename News _ _ _ _ => N0
        rename IsRange _ _ _ _ _ _ _ _ => hr
        refine LCg.CompSrc.range (n := c.fs.length) rfl F1 N0 hr (range1_small7 (by omega)) (range1_size7 (by omega)) (by rw [sizeLine_eq]; omega) (fun gg4 => ?_)
        clear F1 N0 hr
        refine compU_inv (J := fun j bs nw => ∃ RQ, nw = ((D9, LCg.lst xs) :: ((L + 1, o1) :: (L + 1 + 1, c.o2) :: (L + 1 + 1 + 1, o3) :: (rest7 (({ c.B with fz := some zf, kids := kids, n := n' } : BK).objs w ((mg "__name__").getD .none)) (tA, PySem.W.listOf (c.told ++ ys).toArray tn') (sA, PySem.W.listOf c.spv.toArray c.sn) (fA, PySem.W.listOf c.fv.toArray c.fn) (wA, PySem.W.listOf c.wv.toArray c.wn) (cA, PySem.W.listOf kvs.toArray kn) RQ).flatten)) ∧ (∀ e ∈ RR, e ∈ RQ) ∧ DatAll RQ bs ((c.fs.take j).map pD)) ⟨_, rfl, fun e he => he, .nil⟩ ?_ ?_
        · rintro bs nw ⟨RQ, rfl, hRQ, hB⟩
          rw [List.take_length] at hB
          k_steps
          unfold Stop
          rename Fr _ _ _ _ => F1
          rename News _ _ _ _ => N0
          refine lists_ne N0 (.head _) hB (fun e he => .tail _ (.tail _ (show e ∈ (cells L o1 c.o2 o3 :: [] :: rest7 (({ c.B with fz := some zf, kids := kids, n := n' } : BK).objs w ((mg "__name__").getD .none)) (tA, PySem.W.listOf (c.told ++ ys).toArray tn') (sA, PySem.W.listOf c.spv.toArray c.sn) (fA, PySem.W.listOf c.fv.toArray c.fn) (wA, PySem.W.listOf c.wv.toArray c.wn) (cA, PySem.W.listOf kvs.toArray kn) RQ).flatten from mem_R he))) (.tail _ (.tail _ (show (fA, PySem.W.listOf c.fv.toArray c.fn) ∈ (cells L o1 c.o2 o3 :: [] :: rest7 (({ c.B with fz := some zf, kids := kids, n := n' } : BK).objs w ((mg "__name__").getD .none)) (tA, PySem.W.listOf (c.told ++ ys).toArray tn') (sA, PySem.W.listOf c.spv.toArray c.sn) (fA, PySem.W.listOf c.fv.toArray c.fn) (wA, PySem.W.listOf c.wv.toArray c.wn) (cA, PySem.W.listOf kvs.toArray kn) RQ).flatten from mem_f))) hok.fv (fun e he => .tail _ (.tail _ (show e ∈ (cells L o1 c.o2 o3 :: [] :: rest7 (({ c.B with fz := some zf, kids := kids, n := n' } : BK).objs w ((mg "__name__").getD .none)) (tA, PySem.W.listOf (c.told ++ ys).toArray tn') (sA, PySem.W.listOf c.spv.toArray c.sn) (fA, PySem.W.listOf c.fv.toArray c.fn) (wA, PySem.W.listOf c.wv.toArray c.wn) (cA, PySem.W.listOf kvs.toArray kn) RQ).flatten from mem_R (hRQ e (hRM e (List.mem_append_left _ he)))))) (names_ok8 hac) (show _ < 9900 by walk_at "my room") ?_
          have N3 : News g L _ ((L + 1, o1) :: (L + 1 + 1, c.o2) :: (L + 1 + 1 + 1, o3) :: (rest7 (({ c.B with fz := some zf, kids := kids, n := n' } : BK).objs w ((mg "__name__").getD .none)) (tA, PySem.W.listOf (c.told ++ ys).toArray tn') (sA, PySem.W.listOf c.spv.toArray c.sn) (fA, PySem.W.listOf c.fv.toArray c.fn) (wA, PySem.W.listOf c.wv.toArray c.wn) (cA, PySem.W.listOf kvs.toArray kn) RQ).flatten) := fun e he => N0 e (.tail _ (.tail _ he))
          clear N0 hB
          have hwsl : c.ws.length = c.sp.length := List.length_map _
          rw [List.size_toArray, hwvl, ← hwsl, List.take_length] at hZ
          have hzl := intsAre_len hZ
          rw [List.length_map, hwsl] at hzl
          k_steps
          unfold Stop
          rename Fr _ _ _ _ => F1
          rename News _ _ _ _ => N0
          have mD : (D6, PySem.W.listOf zs.toArray zs.length) ∈ ((L + 1, o1) :: (L + 1 + 1, c.o2) :: (L + 1 + 1 + 1, o3) :: (rest7 (({ c.B with fz := some zf, kids := kids, n := n' } : BK).objs w ((mg "__name__").getD .none)) (tA, PySem.W.listOf (c.told ++ ys).toArray tn') (sA, PySem.W.listOf c.spv.toArray c.sn) (fA, PySem.W.listOf c.fv.toArray c.fn) (wA, PySem.W.listOf c.wv.toArray c.wn) (cA, PySem.W.listOf kvs.toArray kn) RQ).flatten) := show _ ∈ (cells L o1 c.o2 o3 :: [] :: rest7 (({ c.B with fz := some zf, kids := kids, n := n' } : BK).objs w ((mg "__name__").getD .none)) (tA, PySem.W.listOf (c.told ++ ys).toArray tn') (sA, PySem.W.listOf c.spv.toArray c.sn) (fA, PySem.W.listOf c.fv.toArray c.fn) (wA, PySem.W.listOf c.wv.toArray c.wn) (cA, PySem.W.listOf kvs.toArray kn) RQ).flatten from mem_R (hRQ _ (hRM _ (List.mem_append_right _ (.head _))))
          refine PyProof.Rows.add_lists (vs := zs) (ws := zs) F1 N0 ⟨_, (N0 _ mD).1, rfl, _, rfl⟩ ⟨_, (N0 _ mD).1, rfl, _, rfl⟩ (fun h20 F2 N2 => ?_) (by rw [sizeLine_eq]; omega)
          clear F1 N0
          dsimp only at N2 ⊢
          generalize (Heap.objs _).size = D13 at N2 ⊢
          k_steps
          unfold Stop
          refine PyProof.Rows.len_list ⟨_, (N2 _ (.tail _ (show (fA, PySem.W.listOf c.fv.toArray c.fn) ∈ (cells L o1 c.o2 o3 :: [] :: rest7 (({ c.B with fz := some zf, kids := kids, n := n' } : BK).objs w ((mg "__name__").getD .none)) (tA, PySem.W.listOf (c.told ++ ys).toArray tn') (sA, PySem.W.listOf c.spv.toArray c.sn) (fA, PySem.W.listOf c.fv.toArray c.fn) (wA, PySem.W.listOf c.wv.toArray c.wn) (cA, PySem.W.listOf kvs.toArray kn) RQ).flatten from mem_f))).1, rfl, _, rfl⟩ (by rw [List.size_toArray]; omega) ?_
          rw [List.size_toArray, hfvl]
          k_steps
          unfold Stop
          rename Fr _ _ _ _ => F1
          rename News _ _ _ _ => N0
          refine PyProof.Rows.add_lists (vs := zs ++ zs) (ws := [Value.int ((c.fs.length : Int) + 1) _]) F1 N0 ⟨_, (N0 _ (.tail _ (.head _))).1, rfl, _, rfl⟩ ⟨_, (N0 _ (.head _)).1, rfl, _, rfl⟩ (fun h21 F2 N2 => ?_) (by rw [sizeLine_eq, List.length_append, List.length_singleton]; omega)
          clear F1 N0
          dsimp only at N2 ⊢
          generalize (Heap.objs _).size = D14 at N2 ⊢
          k_steps
          unfold Stop
          have he : (c.ws.map fun n => (dueN c.fs n : Int)) ++ ((c.sp ++ [(r0, n0 ++ [sc, sa])]).map fun p => (dueN c.fs p.2 : Int)) = (c.ws.map fun q => (dueN c.fs q : Int)) ++ (c.ws.map fun q => (dueN c.fs q : Int)) ++ [(c.fs.length : Int) + 1] := by
            rw [List.map_append, List.map_singleton, due_ca fun q hq => (hok.a3f q hq).1, List.map_map, List.append_assoc]; rfl
          have hT2 := hok.told.append hI
          rw [he] at hT2
          have up : ∀ {q1 q2 q3 : Row}, ∀ e ∈ (cells L o1 c.o2 o3 :: [] :: rest7 (({ c.B with fz := some zf, kids := kids, n := n' } : BK).objs w ((mg "__name__").getD .none)) (tA, PySem.W.listOf (c.told ++ ys).toArray tn') (sA, PySem.W.listOf c.spv.toArray c.sn) (fA, PySem.W.listOf c.fv.toArray c.fn) (wA, PySem.W.listOf c.wv.toArray c.wn) (cA, PySem.W.listOf kvs.toArray kn) RQ).flatten, e ∈ (q1 :: q2 :: q3 :: ((L + 1, o1) :: (L + 1 + 1, c.o2) :: (L + 1 + 1 + 1, o3) :: (rest7 (({ c.B with fz := some zf, kids := kids, n := n' } : BK).objs w ((mg "__name__").getD .none)) (tA, PySem.W.listOf (c.told ++ ys).toArray tn') (sA, PySem.W.listOf c.spv.toArray c.sn) (fA, PySem.W.listOf c.fv.toArray c.fn) (wA, PySem.W.listOf c.wv.toArray c.wn) (cA, PySem.W.listOf kvs.toArray kn) RQ).flatten)) := fun e he => .tail _ (.tail _ (.tail _ he))
          refine lists_eq N2 (up _ mem_t) (ints_dat hT2) (fun _ h => nomatch h) (.head _) (ints_dat ((hZ.append hZ).append (.cons _ _ .nil))) (fun _ h => nomatch h) (ints_ok8 _) (show _ < 9900 by walk_at "my room") ?_
          obtain ⟨qs, hqs⟩ := hok.tab
          refine hQ h21 _ _ #[rawInt 12, rawInt 23, .ref zf.cc] qs F2 (fun e he => ?_)
          rcases mem2 he with rfl | rfl
          · exact N2 _ (up _ (mem_b (.tail _ (.tail _ (.tail _ (.tail _ (.tail _ (.head _))))))))
          · exact N2 _ (up _ (mem_R (hRQ _ (hRM _ (List.mem_append_left _ hqs)))))
        · intro j v I1 oI C1 oC D1 m2 bs nw hh tkk E' hj hv hJ hoC hmx F N off ne
          obtain ⟨RQ, rfl, hRQ, hB⟩ := hJ
          obtain ⟨tt, hv⟩ := hv
          rw [show (1 : Int) + (j : Int) = ((j + 1 : Nat) : Int) by omega] at hv
          subst hv
          obtain ⟨nj, hnj⟩ : ∃ n, c.fs[j]? = some n := ⟨_, List.getElem?_eq_getElem hj⟩
          k_steps
          unfold Stop
          rename Fr _ _ _ _ => F1
          rename News _ _ _ _ => N0
          have mB : ∀ e ∈ (({ c.B with fz := some zf, kids := kids, n := n' } : BK).objs w ((mg "__name__").getD .none)), e ∈ ((I1, oI) :: (C1, oC) :: (D1, LCg.lst bs) :: (D9, LCg.lst xs) :: ((L + 1, o1) :: (L + 1 + 1, c.o2) :: (L + 1 + 1 + 1, o3) :: (rest7 (({ c.B with fz := some zf, kids := kids, n := n' } : BK).objs w ((mg "__name__").getD .none)) (tA, PySem.W.listOf (c.told ++ ys).toArray tn') (sA, PySem.W.listOf c.spv.toArray c.sn) (fA, PySem.W.listOf c.fv.toArray c.fn) (wA, PySem.W.listOf c.wv.toArray c.wn) (cA, PySem.W.listOf kvs.toArray kn) RQ).flatten)) := fun e he => .tail _ (.tail _ (.tail _ (.tail _ (show e ∈ (cells L o1 c.o2 o3 :: [] :: rest7 (({ c.B with fz := some zf, kids := kids, n := n' } : BK).objs w ((mg "__name__").getD .none)) (tA, PySem.W.listOf (c.told ++ ys).toArray tn') (sA, PySem.W.listOf c.spv.toArray c.sn) (fA, PySem.W.listOf c.fv.toArray c.fn) (wA, PySem.W.listOf c.wv.toArray c.wn) (cA, PySem.W.listOf kvs.toArray kn) RQ).flatten from mem_b he))))
          refine book_keys (B := ({ c.B with fz := some zf, kids := kids, n := n' } : BK)) rfl X F1 N0 (mB (c.B.x, (({ c.B with fz := some zf, kids := kids, n := n' } : BK)).fold w) (.head _)) (mB (c.B.dx, (({ c.B with fz := some zf, kids := kids, n := n' } : BK)).bag w) (.tail _ (.head _))) W4.big hkl hka (fun D11 c11 h18 tk18 vs F2 N2 hV => ?_)
          clear F1 N0 mB
          k_steps
          unfold Stop
          rename Fr _ _ _ _ => F1
          rename News _ _ _ _ => N0
          refine back_ct (n := j + 1) (X.keeps F1.keep) (T.keeps F1.keep) (by walk_at "my room") (by walk_at "my room") (N0 _ (.head _)).1 hV (fun y hy => by
            obtain ⟨e, he, rfl⟩ := List.mem_map.mp hy
            exact (hok.eo.keyOk hac (by omega) he).2) (by omega) (back_of hok.eo (j + 1) j nj (Nat.lt_succ_self j) hnj) (fun a vs2 n2 h19 tk19 kp fr ob hvs => ?_)
          have na := allNe_mem (news_ne fr N0)
          have N3 := news_add kp fr ob F1 N0
          have F3 := F1.keeps kp
          refine LCg.CompEnd.intro F3 N3 ((D9, LCg.lst xs) :: ((L + 1, o1) :: (L + 1 + 1, c.o2) :: (L + 1 + 1 + 1, o3) :: (rest7 (({ c.B with fz := some zf, kids := kids, n := n' } : BK).objs w ((mg "__name__").getD .none)) (tA, PySem.W.listOf (c.told ++ ys).toArray tn') (sA, PySem.W.listOf c.spv.toArray c.sn) (fA, PySem.W.listOf c.fv.toArray c.fn) (wA, PySem.W.listOf c.wv.toArray c.wn) (cA, PySem.W.listOf kvs.toArray kn) (RQ ++ [(a, PySem.W.listOf vs2.toArray n2)])).flatten)) (fun e he => ?_) (LCg.Off3.of fun e he => ?_) trivial (toStop ⟨_, rfl, fun e he => List.mem_append_left _ (hRQ e he), ?_⟩)
          · rcases List.mem_append.mp (show e ∈ [(I1, oI), (C1, oC), (D1, LCg.lst bs), (D9, LCg.lst xs)] ++ (cells L o1 c.o2 o3 :: [] :: rest7 (({ c.B with fz := some zf, kids := kids, n := n' } : BK).objs w ((mg "__name__").getD .none)) (tA, PySem.W.listOf (c.told ++ ys).toArray tn') (sA, PySem.W.listOf c.spv.toArray c.sn) (fA, PySem.W.listOf c.fv.toArray c.fn) (wA, PySem.W.listOf c.wv.toArray c.wn) (cA, PySem.W.listOf kvs.toArray kn) (RQ ++ [(a, PySem.W.listOf vs2.toArray n2)])).flatten from he) with he | he
            · exact .tail _ (.tail _ (List.mem_append_left _ he))
            · rw [led_snoc] at he
              rcases List.mem_append.mp he with he | he
              · exact .tail _ (.tail _ (.tail _ (.tail _ (.tail _ (.tail _ he)))))
              · rw [List.mem_singleton.mp he]; exact .head _
          · rcases List.mem_cons.mp he with rfl | he
            · exact off.mem _ (.head _)
            · have he : e ∈ (cells L o1 c.o2 o3 :: [] :: rest7 (({ c.B with fz := some zf, kids := kids, n := n' } : BK).objs w ((mg "__name__").getD .none)) (tA, PySem.W.listOf (c.told ++ ys).toArray tn') (sA, PySem.W.listOf c.spv.toArray c.sn) (fA, PySem.W.listOf c.fv.toArray c.fn) (wA, PySem.W.listOf c.wv.toArray c.wn) (cA, PySem.W.listOf kvs.toArray kn) (RQ ++ [(a, PySem.W.listOf vs2.toArray n2)])).flatten := he
              rw [led_snoc] at he
              rcases List.mem_append.mp he with he | he
              · exact off.mem e (.tail _ he)
              · rw [List.mem_singleton.mp he]
                exact ⟨fun q => na (I1, oI) (.tail _ (.head _)) q.symm, fun q => na (C1, oC) (.tail _ (.tail _ (.head _))) q.symm, fun q => na (D1, LCg.lst bs) (.tail _ (.tail _ (.tail _ (.head _)))) q.symm⟩
          · rw [List.take_add_one, hnj, List.map_append]
            exact datAll_snoc (hB.mono fun e he => List.mem_append_left _ he) (.list (List.mem_append_right _ (.head _)) (datAll_ss hvs))
      · intro j v I1 oI C1 oC D1 m2 xs nw hh tkk E' hj hv hJ hoC hmx F N off ne
        obtain ⟨RR, rfl, P12, hRM, hX⟩ := hJ
        obtain ⟨tt, rfl⟩ := hv
        obtain ⟨ne1, ne2, ne3⟩ := ne
        obtain ⟨vj, hvj⟩ : ∃ v, c.fv[j]? = some v := ⟨_, List.getElem?_eq_getElem (by omega)⟩
        obtain ⟨dd, hd1, hd2⟩ := datAll_get hok.fv hvj
        rw [List.getElem?_map] at hd1
        obtain ⟨nj, hnj, rfl⟩ := Option.map_eq_some_iff.mp hd1
        obtain ⟨aj, uj, kj, rfl, hmj, huj⟩ := dat_way hd2
        obtain ⟨qj, lj, rfl, hej, hdl, hmet⟩ := hok.eo.at_ j nj hnj
        have hidx : c.fv[((0 : Int) + (j : Int)).toNat]? = some (.ref aj) := by rw [Int.zero_add, Int.toNat_natCast]; exact hvj
        k_steps
        unfold Stop
        rename Fr _ _ _ _ => F1
        rename News _ _ _ _ => N0
        have mF : (fA, PySem.W.listOf c.fv.toArray c.fn) ∈ ((I1, oI) :: (C1, oC) :: (D1, LCg.lst xs) :: ((L + 1, o1) :: (L + 1 + 1, c.o2) :: (L + 1 + 1 + 1, o3) :: (rest7 (({ c.B with fz := some zf, kids := kids, n := n' } : BK).objs w ((mg "__name__").getD .none)) (tA, PySem.W.listOf (c.told ++ ys).toArray tn') (sA, PySem.W.listOf c.spv.toArray c.sn) (fA, PySem.W.listOf c.fv.toArray c.fn) (wA, PySem.W.listOf c.wv.toArray c.wn) (cA, PySem.W.listOf kvs.toArray kn) RR).flatten)) := .tail _ (.tail _ (.tail _ (show (fA, PySem.W.listOf c.fv.toArray c.fn) ∈ (cells L o1 c.o2 o3 :: [] :: rest7 (({ c.B with fz := some zf, kids := kids, n := n' } : BK).objs w ((mg "__name__").getD .none)) (tA, PySem.W.listOf (c.told ++ ys).toArray tn') (sA, PySem.W.listOf c.spv.toArray c.sn) (fA, PySem.W.listOf c.fv.toArray c.fn) (wA, PySem.W.listOf c.wv.toArray c.wn) (cA, PySem.W.listOf kvs.toArray kn) RR).flatten from mem_f)))
        refine PyProof.Rows.item_listL ⟨_, (N0 _ mF).1, rfl, _, rfl⟩ (by omega) (by omega) hidx ?_
        k_steps
        unfold Stop
        rename Fr _ _ _ _ => F1
        rename News _ _ _ _ => N0
        have hujl := strsAre_len huj
        have hq60 := (hok.a3f _ (List.mem_of_getElem? hnj)).2
        have mJ : (aj, PySem.W.listOf uj.toArray kj) ∈ ((I1, oI) :: (C1, oC) :: (D1, LCg.lst xs) :: ((L + 1, o1) :: (L + 1 + 1, c.o2) :: (L + 1 + 1 + 1, o3) :: (rest7 (({ c.B with fz := some zf, kids := kids, n := n' } : BK).objs w ((mg "__name__").getD .none)) (tA, PySem.W.listOf (c.told ++ ys).toArray tn') (sA, PySem.W.listOf c.spv.toArray c.sn) (fA, PySem.W.listOf c.fv.toArray c.fn) (wA, PySem.W.listOf c.wv.toArray c.wn) (cA, PySem.W.listOf kvs.toArray kn) RR).flatten)) := .tail _ (.tail _ (.tail _ (show (aj, PySem.W.listOf uj.toArray kj) ∈ (cells L o1 c.o2 o3 :: [] :: rest7 (({ c.B with fz := some zf, kids := kids, n := n' } : BK).objs w ((mg "__name__").getD .none)) (tA, PySem.W.listOf (c.told ++ ys).toArray tn') (sA, PySem.W.listOf c.spv.toArray c.sn) (fA, PySem.W.listOf c.fv.toArray c.fn) (wA, PySem.W.listOf c.wv.toArray c.wn) (cA, PySem.W.listOf kvs.toArray kn) RR).flatten from mem_R (hRM _ (List.mem_append_left _ hmj)))))
        refine' kmk_slice F1 N0 ⟨_, (N0 _ mJ).1, rfl, _, rfl⟩ ?sp ?sq ?_ ?ss ?st ?sz
        case sp => kmk_part
        case sq => kmk_part
        case ss => with_unfolding_all rfl
        case st => kmk_pure
        case sz => (rw [List.size_toArray, sizeLine_eq]; omega)
        intro D7 h12 F2 N2 l2
        simp only [pick_init] at N2
        clear F1 N0
        k_steps
        unfold Stop
        rename Fr _ _ _ _ => F1
        rename News _ _ _ _ => N0
        have hn7 : ∀ e ∈ (cells L o1 c.o2 o3 :: [] :: rest7 (({ c.B with fz := some zf, kids := kids, n := n' } : BK).objs w ((mg "__name__").getD .none)) (tA, PySem.W.listOf (c.told ++ ys).toArray tn') (sA, PySem.W.listOf c.spv.toArray c.sn) (fA, PySem.W.listOf c.fv.toArray c.fn) (wA, PySem.W.listOf c.wv.toArray c.wn) (cA, PySem.W.listOf kvs.toArray kn) RR).flatten, @Ne Nat e.1 D7 := fun e he => Nat.ne_of_lt (l2 e (.tail _ (.tail _ (.tail _ he))))
        have P13 : (cells L o1 c.o2 o3 :: [] :: rest7 (({ c.B with fz := some zf, kids := kids, n := n' } : BK).objs w ((mg "__name__").getD .none)) (tA, PySem.W.listOf (c.told ++ ys).toArray tn') (sA, PySem.W.listOf c.spv.toArray c.sn) (fA, PySem.W.listOf c.fv.toArray c.fn) (wA, PySem.W.listOf c.wv.toArray c.wn) (cA, PySem.W.listOf kvs.toArray kn) (RR ++ [(D7, PySem.W.listOf uj.dropLast.toArray 0)])).Pairwise Apart := pw_snoc P12 hn7
        have off7 : ∀ e ∈ (cells L o1 c.o2 o3 :: [] :: rest7 (({ c.B with fz := some zf, kids := kids, n := n' } : BK).objs w ((mg "__name__").getD .none)) (tA, PySem.W.listOf (c.told ++ ys).toArray tn') (sA, PySem.W.listOf c.spv.toArray c.sn) (fA, PySem.W.listOf c.fv.toArray c.fn) (wA, PySem.W.listOf c.wv.toArray c.wn) (cA, PySem.W.listOf kvs.toArray kn) (RR ++ [(D7, PySem.W.listOf uj.dropLast.toArray 0)])).flatten, e.1 ≠ I1 ∧ e.1 ≠ C1 ∧ e.1 ≠ D1 := fun e he => by
          rw [led_snoc] at he
          rcases List.mem_append.mp he with he | he
          · exact off.mem e he
          · rw [List.mem_singleton.mp he]
            exact ⟨Nat.ne_of_gt (l2 (I1, oI) (.head _)), Nat.ne_of_gt (l2 (C1, oC) (.tail _ (.head _))), Nat.ne_of_gt (l2 (D1, LCg.lst xs) (.tail _ (.tail _ (.head _))))⟩
        have P14 := pw_three (oI := oI) (oC := oC) (oD := LCg.lst xs) P13 off7
        have N1 : News g L _ (cells L o1 c.o2 o3 :: ((I1, oI) :: (C1, oC) :: (D1, LCg.lst xs) :: []) :: rest7 (({ c.B with fz := some zf, kids := kids, n := n' } : BK).objs w ((mg "__name__").getD .none)) (tA, PySem.W.listOf (c.told ++ ys).toArray tn') (sA, PySem.W.listOf c.spv.toArray c.sn) (fA, PySem.W.listOf c.fv.toArray c.fn) (wA, PySem.W.listOf c.wv.toArray c.wn) (cA, PySem.W.listOf kvs.toArray kn) (RR ++ [(D7, PySem.W.listOf uj.dropLast.toArray 0)])).flatten := fun e he => by
          have he := mem_swap he
          rcases List.mem_append.mp (show e ∈ [(I1, oI), (C1, oC), (D1, LCg.lst xs)] ++ (cells L o1 c.o2 o3 :: [] :: rest7 (({ c.B with fz := some zf, kids := kids, n := n' } : BK).objs w ((mg "__name__").getD .none)) (tA, PySem.W.listOf (c.told ++ ys).toArray tn') (sA, PySem.W.listOf c.spv.toArray c.sn) (fA, PySem.W.listOf c.fv.toArray c.fn) (wA, PySem.W.listOf c.wv.toArray c.wn) (cA, PySem.W.listOf kvs.toArray kn) (RR ++ [(D7, PySem.W.listOf uj.dropLast.toArray 0)])).flatten from he) with he | he
          · exact N0 e (.tail _ (List.mem_append_left _ he))
          · rw [led_snoc] at he
            rcases List.mem_append.mp he with he | he
            · exact N0 e (.tail _ (.tail _ (.tail _ (.tail _ he))))
            · rw [List.mem_singleton.mp he]; exact N0 _ (.head _)
        have mF7 : ∀ e ∈ (fA, PySem.W.listOf c.fv.toArray c.fn) :: (RR ++ [(D7, PySem.W.listOf uj.dropLast.toArray 0)]), e ∈ (cells L o1 c.o2 o3 :: ((I1, oI) :: (C1, oC) :: (D1, LCg.lst xs) :: []) :: rest7 (({ c.B with fz := some zf, kids := kids, n := n' } : BK).objs w ((mg "__name__").getD .none)) (tA, PySem.W.listOf (c.told ++ ys).toArray tn') (sA, PySem.W.listOf c.spv.toArray c.sn) (fA, PySem.W.listOf c.fv.toArray c.fn) (wA, PySem.W.listOf c.wv.toArray c.wn) (cA, PySem.W.listOf kvs.toArray kn) (RR ++ [(D7, PySem.W.listOf uj.dropLast.toArray 0)])).flatten := fun p hp => by
          rcases List.mem_cons.mp hp with rfl | hp
          · exact mem_f
          · exact mem_R hp
        have H := (fr_under (l := (fA, PySem.W.listOf c.fv.toArray c.fn) :: (RR ++ [(D7, PySem.W.listOf uj.dropLast.toArray 0)])) F1 N1 mF7).hid fun p hp => hp
        have hdq := strs_init huj
        rw [List.dropLast_concat] at hdq
        have hjq := hok.a3f _ (List.mem_of_getElem? hnj)
        have hqa : AC qj := fun y hy => hjq.1.ac y (List.mem_append_left _ hy)
        rw [List.length_append] at hq60
        refine due_ct1 (R := (fA, PySem.W.listOf c.fv.toArray c.fn) :: (RR ++ [(D7, PySem.W.listOf uj.dropLast.toArray 0)])) (fs := c.fs) (ns := qj) (fvs := c.fv) (nvs := uj.dropLast) (X.keeps H.2) (T.keeps H.2) H.1 (by walk_at "my room") (by walk_at "my room") (.head _) (.tail _ (List.mem_append_right _ (.head _))) (hok.fv.mono fun e he => .tail _ (List.mem_append_left _ (hRM e (List.mem_append_left _ he)))) hdq (fun q hq => ac_str (hok.a3f q hq).1.ac) (ac_str hqa) (by omega) (by omega) (fun t10 h13 tk13 U10 => ?_)
        obtain ⟨F2, N2⟩ := due_frame F1 N1 P14 U10
        have N3 : News g L h13 ((I1, oI) :: (C1, oC) :: (D1, LCg.lst xs) :: ((L + 1, o1) :: (L + 1 + 1, c.o2) :: (L + 1 + 1 + 1, o3) :: (rest7 (({ c.B with fz := some zf, kids := kids, n := n' } : BK).objs w ((mg "__name__").getD .none)) (tA, PySem.W.listOf (c.told ++ ys).toArray tn') (sA, PySem.W.listOf c.spv.toArray c.sn) (fA, PySem.W.listOf c.fv.toArray c.fn) (wA, PySem.W.listOf c.wv.toArray c.wn) (cA, PySem.W.listOf kvs.toArray kn) (RR ++ [(D7, PySem.W.listOf uj.dropLast.toArray 0)])).flatten)) := fun e he => N2 e (mem_swap he)
        have hdb := due_le (fs := c.fs) qj
        clear F1 N0 N1 H U10 N2
        k_steps
        unfold Stop
        refine P.str_of_int (shown (N := 10000) (by omega) (by omega) (by decide +kernel)) ?_
        have hnl1 := KT.len_num (n := (dueN c.fs qj : Int)) (by omega) (by omega)
        k_steps
        unfold Stop
        rename Fr _ _ _ _ => F1
        rename News _ _ _ _ => N0
        have mF8 : (fA, PySem.W.listOf c.fv.toArray c.fn) ∈ ((I1, oI) :: (C1, oC) :: (D1, LCg.lst xs) :: ((L + 1, o1) :: (L + 1 + 1, c.o2) :: (L + 1 + 1 + 1, o3) :: (rest7 (({ c.B with fz := some zf, kids := kids, n := n' } : BK).objs w ((mg "__name__").getD .none)) (tA, PySem.W.listOf (c.told ++ ys).toArray tn') (sA, PySem.W.listOf c.spv.toArray c.sn) (fA, PySem.W.listOf c.fv.toArray c.fn) (wA, PySem.W.listOf c.wv.toArray c.wn) (cA, PySem.W.listOf kvs.toArray kn) (RR ++ [(D7, PySem.W.listOf uj.dropLast.toArray 0)])).flatten)) := .tail _ (.tail _ (.tail _ (show (fA, PySem.W.listOf c.fv.toArray c.fn) ∈ (cells L o1 c.o2 o3 :: [] :: rest7 (({ c.B with fz := some zf, kids := kids, n := n' } : BK).objs w ((mg "__name__").getD .none)) (tA, PySem.W.listOf (c.told ++ ys).toArray tn') (sA, PySem.W.listOf c.spv.toArray c.sn) (fA, PySem.W.listOf c.fv.toArray c.fn) (wA, PySem.W.listOf c.wv.toArray c.wn) (cA, PySem.W.listOf kvs.toArray kn) (RR ++ [(D7, PySem.W.listOf uj.dropLast.toArray 0)])).flatten from mem_f)))
        refine PyProof.Rows.item_listL ⟨_, (N0 _ mF8).1, rfl, _, rfl⟩ (by omega) (by omega) hidx ?_
        k_steps
        unfold Stop
        rename Fr _ _ _ _ => F1
        rename News _ _ _ _ => N0
        obtain ⟨ui, tl, hui⟩ := strsAre_last huj
        have mJ8 : (aj, PySem.W.listOf (ui ++ [Value.str lj tl]).toArray kj) ∈ ((I1, oI) :: (C1, oC) :: (D1, LCg.lst xs) :: ((L + 1, o1) :: (L + 1 + 1, c.o2) :: (L + 1 + 1 + 1, o3) :: (rest7 (({ c.B with fz := some zf, kids := kids, n := n' } : BK).objs w ((mg "__name__").getD .none)) (tA, PySem.W.listOf (c.told ++ ys).toArray tn') (sA, PySem.W.listOf c.spv.toArray c.sn) (fA, PySem.W.listOf c.fv.toArray c.fn) (wA, PySem.W.listOf c.wv.toArray c.wn) (cA, PySem.W.listOf kvs.toArray kn) (RR ++ [(D7, PySem.W.listOf uj.dropLast.toArray 0)])).flatten)) := by
          rw [← hui]
          exact .tail _ (.tail _ (.tail _ (show (aj, PySem.W.listOf uj.toArray kj) ∈ (cells L o1 c.o2 o3 :: [] :: rest7 (({ c.B with fz := some zf, kids := kids, n := n' } : BK).objs w ((mg "__name__").getD .none)) (tA, PySem.W.listOf (c.told ++ ys).toArray tn') (sA, PySem.W.listOf c.spv.toArray c.sn) (fA, PySem.W.listOf c.fv.toArray c.fn) (wA, PySem.W.listOf c.wv.toArray c.wn) (cA, PySem.W.listOf kvs.toArray kn) (RR ++ [(D7, PySem.W.listOf uj.dropLast.toArray 0)])).flatten from mem_R (List.mem_append_left _ (hRM _ (List.mem_append_left _ hmj))))))
        refine subscriptTail_builtin (T := "list") ⟨_, (N0 _ mJ8).1, rfl⟩ slot_list_getitem.lookup (lgetneg N0 mJ8 ?_) (by with_unfolding_all rfl) (by intro _; with_unfolding_all rfl)
        have hljl : lj.length ≤ 1000 := Nat.le_trans (ac_len1 hjq.1.ac lj (List.mem_append_right _ (.head _))) (by decide)
        k_steps
        unfold Stop
        rename Fr _ _ _ _ => F2
        rename News _ _ _ _ => N2
        rename_i t8 k8 _ D8 h14 l8
        rw [key_text _ (ac_ok hjq.1.ac lj (List.mem_append_right _ (.head _)))] at N2
        have hn8 : ∀ e ∈ (cells L o1 c.o2 o3 :: [] :: rest7 (({ c.B with fz := some zf, kids := kids, n := n' } : BK).objs w ((mg "__name__").getD .none)) (tA, PySem.W.listOf (c.told ++ ys).toArray tn') (sA, PySem.W.listOf c.spv.toArray c.sn) (fA, PySem.W.listOf c.fv.toArray c.fn) (wA, PySem.W.listOf c.wv.toArray c.wn) (cA, PySem.W.listOf kvs.toArray kn) (RR ++ [(D7, PySem.W.listOf uj.dropLast.toArray 0)])).flatten, @Ne Nat e.1 D8 := fun e he => by
          rcases List.mem_cons.mp he with rfl | he
          · exact Nat.ne_of_lt l8.2.2.2.1
          · rcases List.mem_cons.mp he with rfl | he
            · exact Nat.ne_of_lt l8.2.2.2.2.1
            · rcases List.mem_cons.mp he with rfl | he
              · exact Nat.ne_of_lt l8.2.2.2.2.2.1
              · exact Nat.ne_of_lt (tb_ltOf l8.2.2.2.2.2.2 e he)
        refine LCg.CompEnd.intro F2 N2 ((L + 1, o1) :: (L + 1 + 1, c.o2) :: (L + 1 + 1 + 1, o3) :: (rest7 (({ c.B with fz := some zf, kids := kids, n := n' } : BK).objs w ((mg "__name__").getD .none)) (tA, PySem.W.listOf (c.told ++ ys).toArray tn') (sA, PySem.W.listOf c.spv.toArray c.sn) (fA, PySem.W.listOf c.fv.toArray c.fn) (wA, PySem.W.listOf c.wv.toArray c.wn) (cA, PySem.W.listOf kvs.toArray kn) (RR ++ [(D7, PySem.W.listOf uj.dropLast.toArray 0)] ++ [(D8, ({ cls := .type "tuple", data := .seq [Value.str (joinStep (numT (dueN c.fs qj)) lj) t8, Value.int (0 + (j : Int) + 1) (k8 + 1)].toArray } : Obj))])).flatten) (fun e he => ?_) (LCg.Off3.of fun e he => ?_) trivial (toStop ⟨_, rfl, pw_snoc P13 hn8, fun e he => List.mem_append_left _ (List.mem_append_left _ (hRM e he)), ?_⟩)
        · rcases List.mem_append.mp (show e ∈ [(I1, oI), (C1, oC), (D1, LCg.lst xs)] ++ (cells L o1 c.o2 o3 :: [] :: rest7 (({ c.B with fz := some zf, kids := kids, n := n' } : BK).objs w ((mg "__name__").getD .none)) (tA, PySem.W.listOf (c.told ++ ys).toArray tn') (sA, PySem.W.listOf c.spv.toArray c.sn) (fA, PySem.W.listOf c.fv.toArray c.fn) (wA, PySem.W.listOf c.wv.toArray c.wn) (cA, PySem.W.listOf kvs.toArray kn) (RR ++ [(D7, PySem.W.listOf uj.dropLast.toArray 0)] ++ [(D8, ({ cls := .type "tuple", data := .seq [Value.str (joinStep (numT (dueN c.fs qj)) lj) t8, Value.int (0 + (j : Int) + 1) (k8 + 1)].toArray } : Obj))])).flatten from he) with he | he
          · exact .tail _ (List.mem_append_left _ he)
          · rw [led_snoc] at he
            rcases List.mem_append.mp he with he | he
            · exact .tail _ (.tail _ (.tail _ (.tail _ he)))
            · rw [List.mem_singleton.mp he]; exact .head _
        · have he : e ∈ (cells L o1 c.o2 o3 :: [] :: rest7 (({ c.B with fz := some zf, kids := kids, n := n' } : BK).objs w ((mg "__name__").getD .none)) (tA, PySem.W.listOf (c.told ++ ys).toArray tn') (sA, PySem.W.listOf c.spv.toArray c.sn) (fA, PySem.W.listOf c.fv.toArray c.fn) (wA, PySem.W.listOf c.wv.toArray c.wn) (cA, PySem.W.listOf kvs.toArray kn) (RR ++ [(D7, PySem.W.listOf uj.dropLast.toArray 0)] ++ [(D8, ({ cls := .type "tuple", data := .seq [Value.str (joinStep (numT (dueN c.fs qj)) lj) t8, Value.int (0 + (j : Int) + 1) (k8 + 1)].toArray } : Obj))])).flatten := he
          rw [led_snoc] at he
          rcases List.mem_append.mp he with he | he
          · exact off7 e he
          · rw [List.mem_singleton.mp he]
            exact ⟨Nat.ne_of_gt l8.1, Nat.ne_of_gt l8.2.1, Nat.ne_of_gt l8.2.2.1⟩
        · rw [List.take_add_one, hej, List.map_append]
          refine datAll_snoc (hX.mono fun e he => List.mem_append_left _ (List.mem_append_left _ he)) (.tuple (vs := [_, _]) (List.mem_append_right _ (.head _)) (.cons (.str _ _) (.cons ?_ .nil)))
          rw [show ((j + 1 : Nat) : Int) = 0 + (j : Int) + 1 by omega]
          exact .int _ _
    · intro j v I1 oI C1 oC D1 m2 zs nw hh tkk E' hj hv hJ hoC hmx F N off ne
      obtain ⟨rfl, hZ⟩ := hJ
      rw [List.getElem?_toArray] at hv
      obtain ⟨dd, hd1, hd2⟩ := datAll_get hok.wv hv
      rw [List.getElem?_map] at hd1
      obtain ⟨nj, hnj, rfl⟩ := Option.map_eq_some_iff.mp hd1
      obtain ⟨aj, uj, kj, rfl, hmj, huj⟩ := dat_way hd2
      k_steps
      unfold Stop
      rename Fr _ _ _ _ => F1
      rename News _ _ _ _ => N0
      obtain ⟨pj, hpj, hpe⟩ := List.mem_map.mp (List.mem_of_getElem? hnj)
      obtain ⟨_, hja, hjl⟩ := hok.spr pj hpj
      rw [hpe] at hja hjl
      have P10 := pw_three (oI := oI) (oC := oC) (oD := LCg.lst zs) P9 (fun e he => off.mem e (mem_swap he))
      have N1 : News g L _ (cells L o1 c.o2 o3 :: ((I1, oI) :: (C1, oC) :: (D1, LCg.lst zs) :: []) :: rest7 (({ c.B with fz := some zf, kids := kids, n := n' } : BK).objs w ((mg "__name__").getD .none)) (tA, PySem.W.listOf (c.told ++ ys).toArray tn') (sA, PySem.W.listOf c.spv.toArray c.sn) (fA, PySem.W.listOf c.fv.toArray c.fn) (wA, PySem.W.listOf c.wv.toArray c.wn) (cA, PySem.W.listOf kvs.toArray kn) c.R).flatten := fun e he => N0 e (mem_swap he)
      have H := (fr_under (l := (fA, PySem.W.listOf c.fv.toArray c.fn) :: c.R) F1 N1 (fun p hp => by
        rcases List.mem_cons.mp hp with rfl | hp
        · exact mem_f
        · exact mem_R hp)).hid fun p hp => hp
      refine due_ct1 (R := (fA, PySem.W.listOf c.fv.toArray c.fn) :: c.R) (fs := c.fs) (ns := nj) (fvs := c.fv) (nvs := uj) (X.keeps H.2) (T.keeps H.2) H.1 (by walk_at "my room") (by walk_at "my room") (.head _) (.tail _ hmj) (hok.fv.mono fun e he => .tail _ he) huj (fun q hq => ac_str (hok.a3f q hq).1.ac) (ac_str hja.ac) (by omega) (by omega) (fun t10 h10 tk10 U10 => ?_)
      obtain ⟨F2, N2⟩ := due_frame F1 N1 P10 U10
      refine LCg.CompEnd.intro F2 N2 ((L + 1, o1) :: (L + 1 + 1, c.o2) :: (L + 1 + 1 + 1, o3) :: (rest7 (({ c.B with fz := some zf, kids := kids, n := n' } : BK).objs w ((mg "__name__").getD .none)) (tA, PySem.W.listOf (c.told ++ ys).toArray tn') (sA, PySem.W.listOf c.spv.toArray c.sn) (fA, PySem.W.listOf c.fv.toArray c.fn) (wA, PySem.W.listOf c.wv.toArray c.wn) (cA, PySem.W.listOf kvs.toArray kn) c.R).flatten) (fun e he => mem_swap he) off (.inr ⟨_, mW, rfl, _, rfl⟩) (toStop ⟨rfl, ?_⟩)
      rw [List.take_add_one, hnj, List.map_append]
      exact intsAre_snoc _ _ hZ
  · intro j v I1 oI C1 oC D1 m2 ys nw hh tkk E' hj hv hJ hoC hmx F N off ne
    obtain ⟨kids, n', rfl, PJ, hka, hkl, hI⟩ := hJ
    rw [List.getElem?_toArray] at hv
    obtain ⟨yv, tv, rfl, hyv⟩ := strsAre_get hsv hv
    rw [List.getElem?_map] at hyv
    obtain ⟨⟨ri, ni⟩, hpi, rfl⟩ := Option.map_eq_some_iff.mp hyv
    obtain ⟨hri, hai, hli⟩ : RootOk ri ∧ AC ni ∧ ni.length ≤ 62 := by
      rcases List.mem_append.mp (List.mem_of_getElem? hpi) with h | h
      · obtain ⟨q1, q2, q3⟩ := hok.spr (ri, ni) h
        exact ⟨q1, q2.ac, Nat.le_trans q3 (by decide)⟩
      · have h := List.mem_singleton.mp h
        injection h with q1 q2
        subst q1; subst q2
        exact ⟨hr0, ac_ca ha0, by rw [List.length_append]; simp only [List.length_cons, List.length_nil]; omega⟩
    dsimp only at hv
    have hpl := ac_len hri hai
    k_steps
    unfold Stop
    rename Fr _ _ _ _ => F1
    rename News _ _ _ _ => N0
    have P7 := pw_three (oI := oI) (oC := oC) (oD := LCg.lst ys) PJ (fun e he => off.mem e (mem_swap he))
    have N1 : News g L _ (cells L o1 c.o2 o3 :: ((I1, oI) :: (C1, oC) :: (D1, LCg.lst ys) :: [(hq.objs.size, PySem.W.listOf (c.spv ++ [Value.str (pathR r0 (n0 ++ [sc, sa])) t5]).toArray 0)]) :: rest7 (({ c.B with fz := some zf, kids := kids, n := n' } : BK).objs w ((mg "__name__").getD .none)) (tA, PySem.W.listOf c.told.toArray c.tn) (sA, PySem.W.listOf c.spv.toArray c.sn) (fA, PySem.W.listOf c.fv.toArray c.fn) (wA, PySem.W.listOf c.wv.toArray c.wn) (cA, PySem.W.listOf kvs.toArray kn) c.R).flatten := fun e he => N0 e (mem_swap he)
    have H := (fr_under F1 N1 (fun p hp => mem_b hp)).hid fun p hp => hp
    have hyl : ∀ y ∈ ni, y.length ≤ 1000 := fun y hy => Nat.le_trans (ac_len1 hai y hy) (by decide)
    have hic := num_ice hok.eo (ac_ok hai) ni.length (Nat.le_refl _)
    rw [List.take_length] at hic
    have WJ : BKOk ({ c.B with fz := some zf, kids := kids, n := n' } : BK) := { W4 with len := hkl }
    refine number_ct (B := { c.B with fz := some zf, kids := kids, n := n' }) (X.keeps H.2) (T.keeps H.2) H.1 WJ (by walk_at "my room") (by walk_at "my room") hri (ac_ok hai) (by omega) hka (by omega) hbd hyl (fun kids2 n2 t2 h7 tk7 hka2 hkl2 U7 => ?_)
    have hic1 : ni.foldl (numStep true) (c.es, 0) = (c.es, dueN c.fs ni) := hic.1
    rw [show (some zf).isSome = true from rfl, hic1] at hka2 ⊢
    obtain ⟨F2, N2, P8⟩ := blk_b F1 N1 P7 U7
    refine LCg.CompEnd.intro F2 N2 ((hq.objs.size, PySem.W.listOf (c.spv ++ [Value.str (pathR r0 (n0 ++ [sc, sa])) t5]).toArray 0) :: ((L + 1, o1) :: (L + 1 + 1, c.o2) :: (L + 1 + 1 + 1, o3) :: (rest7 (({ c.B with fz := some zf, kids := kids2, n := n2 } : BK).objs w ((mg "__name__").getD .none)) (tA, PySem.W.listOf c.told.toArray c.tn) (sA, PySem.W.listOf c.spv.toArray c.sn) (fA, PySem.W.listOf c.fv.toArray c.fn) (wA, PySem.W.listOf c.wv.toArray c.wn) (cA, PySem.W.listOf kvs.toArray kn) c.R).flatten)) (fun e he => mem_swap he) (LCg.Off3.of (off_three P8 (fun e he => by rw [List.mem_singleton.mp he]; exact off.mem _ (.head _)))) ?_ (toStop ⟨kids2, n2, rfl, pw_drop3 P8, hka2, by omega, ?_⟩)
    · exact .inr ⟨_, .head _, rfl, _, rfl⟩
    · rw [List.take_add_one, hpi, List.map_append]
      exact intsAre_snoc _ _ hI
end
end
section
local macro_rules | `(tactic| walk_at "exec For Name Call cons nil") => `(tactic| (k_here; (rename Fr _ _ _ _ => lF'); (with_unfolding_all refine' For_invVF lF' ?k1 ?k2 ?_; (case k1 => exact rfl); (case k2 => exact rfl))))

local macro_rules | `(tactic| walk_at "call ref") => `(tactic| (k_here; refine stop ?_))
theorem law_holds : PySem.Challenge.rw_il0142_01.Holds := by
  w_on
  refine holds_law ws fun said => ?_
  refine holds_open (q := view1) (loose := []) (Xt := fun s => xlAt view1 [] s && recOk (RowW.records r1) s) (XP := XL view1 []) (Yf := Hook.obs (kmHook K1 as1 (fun _ => rfl) [57, 193])) (Ya := Hook.val (kmHook K1 as1 (fun _ => rfl) [57, 193])) (YP := Hook.says (kmHook K1 as1 (fun _ => rfl) [57, 193])) (N := 2938) left1 (Hook.of (kmHook K1 as1 (fun _ => rfl) [57, 193])) (Hook.keeps (kmHook K1 as1 (fun _ => rfl) [57, 193])) (fun s e => xl_of s (Bool.and_eq_true_iff.mp e).1) XL.keeps (by rfl) (by rfl) (by rfl) (fun s e => recFacts_of (Bool.and_eq_true_iff.mp e).2) (by rfl) (by first | assumption | decide +kernel) (by decide +kernel) ⟨rfl, rfl, rfl, rfl, rfl, by decide +kernel⟩ ?hw ?hc
  case hw => w_witness2
  clear said
  k_go0
  all_goals try k_fold
  k_steps

  unfold Stop
  rename Fr _ _ _ _ => F1
  rename News _ _ _ _ => N1
  rename Frag.In _ _ => X
  rename Top _ _ _ _ _ _ => TT
  have T := topRead_of TT
  rename CodeHd _ 197 193 => CN
  rename CodeHd _ 61 57 => CH
  refine start_ct F1 N1 X TT CN (by omega) (by omega) (by decide +kernel) (by decide +kernel) (fun x dx f c cc co oc ctv ps h' tk' F2 N2 hco hoc big h193 hne => ?_)
  clear F1 N1
  k_steps
  unfold Stop
  rename Fr _ _ _ _ => F1
  rename News _ _ _ _ => N1
  rename IsRange _ _ _ _ _ _ _ _ => hr
  rename IntsAre _ (_ ++ _) => hI
  have B := blocks01 (st := tk') N1 big h193 (by omega) (by omega) hne (by assumption) (by omega) (by omega) (by omega) (by omega)
  refine loop1_ct (by k_is) X TT CH F1 B.1 B.2 ⟨by show _ = some (Value.str (pathR sl []) _); rw [path_nil]; rfl, rfl, rfl, rfl, rfl, rfl, trivial⟩ (by assumption) (by assumption) (ok01 hco hoc big (by assumption) (stop_bd _ (take8 _)).1) (Nat.add_le_add_right (take8 _) 5) hI (by rw [List.length_append]; rfl) (fun i hi => counts01 i (by rw [List.length_append]; exact hi)) (stop_bd _ (take8 _)).1 (stop_bd _ (take8 _)).2 hr (by decide +kernel) (by decide +kernel) (fun c h' tk u hok F' N' P' => ?_)
  clear F1 N1 B hr hI
  refine tail1_ct (by k_is) X TT CH F' N' P' (by assumption) (by assumption) hok (Nat.add_le_add_right (take8 _) 5) (Nat.le_add_left 1 _) (by decide +kernel) (by decide +kernel) (fun h2 tk2 m2 ps qs F2 N2 => ?_)
  clear F' N' P' hok
  k_steps
end
end Mine
theorem PySem.Challenge.cw_il0142_01_holds : PySem.Challenge.rw_il0142_01.Holds := by
  exact Mine.law_holds
