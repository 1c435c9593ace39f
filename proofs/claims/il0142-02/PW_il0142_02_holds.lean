import PyProof.Rows.All
import Wide.All
import OpenK.AllK
import Wide.FinOn
import PySem.Challenge.RW_il0142_02
open PySem PySem.W PySem.Calls PyProof.Rows
set_option Elab.async false
set_option maxRecDepth 100000
set_option maxHeartbeats 8000000
set_option compiler.extract_closed false
set_option linter.unusedVariables false
set_option linter.unusedSimpArgs false
namespace Mine
section
theorem neg1 (n : Nat) : (-1 + ((n + 1 : Nat) : Int)) = (n : Int) := by omega
theorem neg1n (n : Nat) : (-1 + ((n + 1 : Nat) : Int)).toNat = n := by rw [neg1]; rfl
theorem roomE {d a c : Nat} (h : d + a < c) : d < c := Nat.lt_of_le_of_lt (Nat.le_add_right d a) h
theorem room0 {d a b c : Nat} (h : d + a < c) (e : b ≤ a) : d + b < c := Nat.lt_of_le_of_lt (Nat.add_le_add_left e d) h
theorem room1 {d k a b c : Nat} (h : d + a < c) (e : k + b ≤ a) : d + k + b < c := by rw [Nat.add_assoc]; exact room0 h e

section
variable {prog : Program} {w : World} {A : Around} {E : Value → Shared → Prop} {s : Shared}

theorem nested_str {k : Value} {dep : Int} {tk : Tok} {Q : Fin → Shared → Prop} (hk : k = .int dep tk)
    (hq : Q (.done (.ret (.bool true))) s) :
    wpAny (model prog w) A (Builtin.«issubclass.nested» ⟨[.type "str", .type "str", k], []⟩) Q E s := by
  subst hk
  have hself : isSubtype (.type "str") (.type "str") = pure true := by rw [isSubtype_type]; kernel_rfl
  have hm : (Value.type ((Manifest.find? "str").elim "type" fun y => y.metatype) == .type "type") = true := by decide +kernel
  repeat (any_goals (first | assumption | (rw [if_pos hm]) | (rw [hself]) | wp_step))

theorem issub_args_nested (a b c : Value) : argsOk "issubclass.nested" ⟨[a, b, c], []⟩ := by unfold argsOk; kernel_rfl
theorem issub_kind : builtinKind "issubclass.nested" = none := by decide +kernel
theorem issub_plain : plainId "issubclass.nested" = true := by decide +kernel

theorem issub_list {tp : Addr} {l r : List Value} {n : Nat} {Q : Value → Shared → Prop} (hl : l = .type "str" :: r)
    (htp : s.heap.get? tp = some { cls := .type "tuple", data := .seq l.toArray n })
    (hq : ∀ tk', Q (.bool true) { s with toks := tk' }) :
    wpAny (model prog w) A (PySem.call (.builtin "issubclass") [.type "str", .ref tp]) Q E s := by
  refine call_issubclass (S := fun _ R s => s.heap.get? tp = some { cls := .type "tuple", data := .seq l.toArray n } ∧ ∀ tk', R (.ok (.ret (.bool true))) { s with toks := tk' }) (fun _ _ _ R s hs => issubclass_outer ?_) ⟨htp, hq⟩
  obtain ⟨h, g, d, t, os⟩ := s
  obtain ⟨htp, hq⟩ := hs
  have hT2 : (⟨h, g, d, t, os⟩ : Shared).TypeIs (.ref tp) "tuple" := ⟨_, htp, rfl⟩
  have f1 := F.isi_sub_tuple
  unfold rawInt
  repeat (any_goals (first | assumption | wp_step))
  refine wpAny_arrayLoop ?_
  simp only [Option.getD_some, List.toList_toArray]
  rw [hl, List.forIn_cons]
  refine wpAny_bind (wpAny_bind (call_function_meets issub_kind issub_plain F.entry_issubclass_nested (issub_args_nested _ _ _)
    (S := fun _ R s => R (.ok (.ret (.bool true))) s) (fun _ _ _ _ _ hs => nested_str rfl hs) ?_))
  refine wpAny_bind (m := truthy (.bool true)) (wpAny_pure ?_)
  repeat (any_goals (first | assumption | wp_step))
  exact hq t

theorem issub_str {tp : Addr} {c : Value} {n : Nat} {Q : Value → Shared → Prop}
    (htp : s.heap.get? tp = some { cls := .type "tuple", data := .seq #[.type "str", c] n })
    (hq : ∀ tk', Q (.bool true) { s with toks := tk' }) :
    wpAny (model prog w) A (PySem.call (.builtin "issubclass") [.type "str", .ref tp]) Q E s := issub_list (r := [c]) rfl htp hq
end

noncomputable abbrev Keeps (h h' : Heap) : Prop := ∀ b o, h.get? b = some o → h'.get? b = some o
/-- an «around» without an exception in hand -/
noncomputable abbrev Ar (dp un : Nat) (fr : Option (List Env)) (gd : Option (List Code)) : Around := { handled := none, depth := dp, frames := fr, guards := gd, units := un }

theorem enter {prog : Program} {w : World} {A : Around} {s : Shared} {K : Frag} {Q E : Value → Shared → Prop}
    {p : Program} {loose : List Str} {mg mb : Str → Option Value}
    {name qual : Str} {params : Arguments} {body : List Stmt} {scope : Scope} {dV kV doc pm cdv ct oc : Value} {an od : Option Addr} {osl : Array (Option Value)} {f : Addr} {pos : List Value} {kw : List (Str × Value)} (binds : List (Str × Value))
    (X : K.In s.heap) (T : TopRead p loose mg mb s.heap)
    (ho : K.lookup f = some ⟨oc, od, .func (fnOf name qual params body scope dV kV doc pm an cdv ct), osl⟩) (hcd : codeIn K cdv qual = true) (hroom : A.depth < recursionLimit)
    (hbind : BindsTo s (fnOf name qual params body scope dV kV doc pm an cdv ct) ⟨pos, kw⟩ binds) (hloc : ∀ y ∈ binds, scope.names.lookup y.1 = some .local)
    (h : ∀ L' h₁, Fr s.heap L' h₁ (fun y => binds.reverse.lookup y) → News s.heap L' h₁ [] →
      wpAny (model prog w) (A.deeper (envOf qual scope L' f cdv)) (execs body (envOf qual scope L' f cdv))
        (fun fl s' => Q (match fl with | .ret v => v | _ => .none) s')
        (fun _ _ => False)
        { s with heap := h₁, toks := s.toks + binds.length })
    (hco : scope.isCoroutine = false) (hgen : scope.isGenerator = false) (hk : scope.kind = .function)
    (hcell : ∀ x ∈ scope.names, x.2 ≠ .cell) : wpAny (model prog w) A (PySem.call (.ref f) pos kw) Q E s := by
  refine wpAny_call ?_
  refine codeAny_call_def (fd := fnOf name qual params body scope dV kV doc pm an cdv ct) (body := body) (binds := binds) hroom (X _ _ ho) rfl T.nolimit (codeRec_of X hcd) rfl hbind hcell hloc (fun h₁ hns hk₁ => ?_) hco hgen hk
  exact wpAny_mono (h s.heap.objs.size h₁ ⟨hns, hk₁, Nat.le_refl _⟩ News.nil) (fun fl s' hl => hl) fun _ _ y => y.elim

/-- a def with *rest: the rest is a new tuple -/
theorem enterV {prog : Program} {w : World} {A : Around} {s : Shared} {K : Frag} {Q E : Value → Shared → Prop}
    {p : Program} {loose : List Str} {mg mb : Str → Option Value}
    {name qual : Str} {params : Arguments} {body : List Stmt} {scope : Scope} {dV kV doc pm cdv ct oc : Value} {an od : Option Addr} {osl : Array (Option Value)} {f : Addr} {pos : List Value} {kw : List (Str × Value)}
    (ys : List Value) (binds : Value → List (Str × Value))
    (X : K.In s.heap) (T : TopRead p loose mg mb s.heap)
    (ho : K.lookup f = some ⟨oc, od, .func (fnOf name qual params body scope dV kV doc pm an cdv ct), osl⟩) (hcd : codeIn K cdv qual = true) (hroom : A.depth < recursionLimit)
    (hbind : bindArgs (fnOf name qual params body scope dV kV doc pm an cdv ct) ⟨pos, kw⟩ = (newTuple ys >>= fun v => pure (binds v))) (hsz : ys.length ≤ sizeLine)
    (hloc : ∀ v, ∀ y ∈ binds v, scope.names.lookup y.1 = some .local)
    (h : ∀ D L' h₁ tk, Fr s.heap L' h₁ (fun y => (binds (.ref D)).reverse.lookup y) → News s.heap L' h₁ [(D, { cls := .type "tuple", data := .seq ys.toArray })] →
      wpAny (model prog w) (A.deeper (envOf qual scope L' f cdv)) (execs body (envOf qual scope L' f cdv))
        (fun fl s' => Q (match fl with | .ret v => v | _ => .none) s')
        (fun _ _ => False)
        { s with heap := h₁, toks := tk })
    (hco : scope.isCoroutine = false) (hgen : scope.isGenerator = false) (hk : scope.kind = .function)
    (hcell : ∀ x ∈ scope.names, x.2 ≠ .cell) : wpAny (model prog w) A (PySem.call (.ref f) pos kw) Q E s := by
  refine wpAny_call ?_
  refine codeAny_call_function (fd := fnOf name qual params body scope dV kV doc pm an cdv ct) (body := body) hroom (X _ _ ho) rfl hco hgen rfl (codeRec_of X hcd) ?_
  rw [hbind]
  refine wpAny_bind (wpAny_newObj_type (wpAny_pure ?_) (by show ys.toArray.size ≤ sizeLine; rw [List.size_toArray]; exact hsz))
  refine wpAny_newFunctionEnv hcell (hloc _) (fun h₁ hns hsb => ⟨?_, codeAny_func ?_⟩) hk
  · exact (T.nolimit.keeps fun b o e => Heap.get?_push_of_some _ e).fresh _ hsb
  · have hk₁ : ∀ b o, (s.heap.push { cls := .type "tuple", data := .seq ys.toArray }).get? b = some o → h₁.get? b = some o := fun b o e => hsb.extBut b o (Nat.ne_of_lt (Heap.lt_size e)) (Heap.get?_push_of_some _ e)
    refine wpAny_mono (h s.heap.objs.size (s.heap.push { cls := .type "tuple", data := .seq ys.toArray }).objs.size h₁ _ ⟨hns, fun b o e => hk₁ b o (Heap.get?_push_of_some _ e), ?_⟩ ?_) (fun fl s' hl => hl) fun _ _ y => y.elim
    · rw [Heap.size_push]; omega
    · intro p hp
      rw [List.mem_singleton.mp hp]
      refine ⟨hk₁ _ _ (Heap.get?_push_size _ rfl), ?_, Heap.get?_none_of_le (Nat.le_refl _)⟩
      show s.heap.objs.size ≠ (s.heap.push { cls := .type "tuple", data := .seq ys.toArray }).objs.size
      rw [Heap.size_push]; omega
end
section
set_option maxHeartbeats 400000

/-- a map of names: the written pairs first, then the rest -/
noncomputable def chain : List (Str × Value) → (Str → Option Value) → Str → Option Value
  | [], u => u
  | (x, v) :: r, u => fun y => if y = x then some v else chain r u y
noncomputable def AllAt (m : Str → Option Value) : List (Str × Value) → Prop
  | [] => True
  | (x, v) :: r => m x = some v ∧ AllAt m r
theorem chain_of {m : Str → Option Value} : ∀ {l : List (Str × Value)}, AllAt m l → chain l m = m
  | [], _ => rfl
  | (x, v) :: r, h => by
    funext y
    show (if y = x then some v else chain r m y) = m y
    rw [chain_of h.2]
    by_cases e : y = x
    · rw [if_pos e, e, h.1]
    · rw [if_neg e]
noncomputable def Sub (big : List (Addr × Obj)) : List (Addr × Obj) → Prop
  | [] => True
  | p :: r => p ∈ big ∧ Sub big r
theorem Sub.mem {big l : List (Addr × Obj)} (h : Sub big l) : ∀ p ∈ l, p ∈ big := by
  induction l with
  | nil => intro p hp; cases hp
  | cons a r ih =>
    intro p hp
    rcases List.mem_cons.mp hp with e | hp
    · rw [e]; exact h.1
    · exact ih h.2 p hp
theorem Sub.of_mem {big l : List (Addr × Obj)} (h : ∀ p ∈ l, p ∈ big) : Sub big l := by
  induction l with
  | nil => trivial
  | cons a r ih => exact ⟨h a (.head _), ih fun p hp => h p (.tail _ hp)⟩
/-- no object of a class n -/
noncomputable def Off (n : String) : List (Addr × Obj) → Prop
  | [] => True
  | p :: r => p.2.cls ≠ .type n ∧ Off n r
theorem Off.ne {n : String} {l : List (Addr × Obj)} (h : Off n l) : ∀ p ∈ l, p.2.cls ≠ .type n := by
  induction l with
  | nil => intro p hp; cases hp
  | cons a r ih =>
    intro p hp
    rcases List.mem_cons.mp hp with e | hp
    · rw [e]; exact h.1
    · exact ih h.2 p hp
theorem Off.of_ne {n : String} {l : List (Addr × Obj)} (h : ∀ p ∈ l, p.2.cls ≠ .type n) : Off n l := by
  induction l with
  | nil => trivial
  | cons a r ih => exact ⟨h a (.head _), ih fun p hp => h p (.tail _ hp)⟩
theorem Off.append {n : String} {a b : List (Addr × Obj)} (h : Off n a) (k : Off n b) : Off n (a ++ b) :=
  .of_ne fun p hp => (List.mem_append.mp hp).elim (h.ne p) (k.ne p)

noncomputable def AllNe (d : Addr) : List (Addr × Obj) → Prop
  | [] => True
  | p :: r => @Ne Nat p.1 d ∧ AllNe d r
theorem allNe_of {d : Addr} {l : List (Addr × Obj)} (h : ∀ p ∈ l, p.1 ≠ d) : AllNe d l := by
  induction l with
  | nil => trivial
  | cons p r ih => exact ⟨h p (.head _), ih fun q hq => h q (.tail _ hq)⟩
/-- the end of a loop's turn -/
noncomputable def TEnd {σ : Type} (g : Heap) (L : Addr) (Led : σ → List (Addr × Obj)) (ps : σ → List (Str × Value)) (P : σ → Prop) (icls : String) (it : Addr × Obj) (s₁ s₂ : Shared) : Prop :=
  ∃ c h' tk m' news', s₂ = { s₁ with heap := h', toks := tk } ∧ Fr g L h' m' ∧ News g L h' news' ∧ Sub news' (Led c) ∧ it ∈ news' ∧ Off icls (Led c) ∧ AllAt m' (ps c) ∧ P c
noncomputable def TPost {σ : Type} (g : Heap) (L : Addr) (Led : σ → List (Addr × Obj)) (ps : σ → List (Str × Value)) (P : σ → Prop) (icls : String) (it : Addr × Obj) (s₁ : Shared) (Q : Flow → Shared → Prop) (f : Flow) (s₂ : Shared) : Prop :=
  match f with
  | .ret v => Q (.ret v) s₂
  | .brk => Q .next s₂
  | _ => TEnd g L Led ps P icls it s₁ s₂
theorem TEnd.intro {σ : Type} {g : Heap} {L : Addr} {Led : σ → List (Addr × Obj)} {ps : σ → List (Str × Value)} {P : σ → Prop} {icls : String} {it : Addr × Obj} {s₁ : Shared} (c : σ) {h' : Heap} {tk : Nat} {m' : Str → Option Value} {news' : List (Addr × Obj)}
    (F : Fr g L h' m') (N : News g L h' news') (h1 : Sub news' (Led c)) (h2 : it ∈ news') (h3 : Off icls (Led c)) (h4 : AllAt m' (ps c)) (h5 : P c) : TEnd g L Led ps P icls it s₁ { s₁ with heap := h', toks := tk } :=
  ⟨c, h', tk, m', news', rfl, F, N, h1, h2, h3, h4, h5⟩

section
variable {prog : Program} {w : World} {A : Around} {E : Value → Shared → Prop} {s : Shared} {env : Env} {g : Heap} {x : Str} {body : List Stmt} {Q : Flow → Shared → Prop}

theorem for_core {σ : Type} {I : Addr} {src : List (Addr × Obj)} {n : Nat} {PV : Nat → Value → Prop} {St : Nat → Heap → Prop} {icls : String} {m₀ : Str → Option Value} {news : List (Addr × Obj)}
    (Led : σ → List (Addr × Obj)) (ps : σ → List (Str × Value)) (P : Nat → σ → Prop) (c₀ : σ)
    (W : Walks prog w A I (I :: src.map (·.1)) [I] n PV St)
    (hob : ∀ i h, St i h → ∃ o, h.get? I = some o ∧ o.cls = .type icls)
    (hsrc : ∀ q ∈ src, (∀ c, q ∈ Led c) ∨ g.get? q.1 = some q.2)
    (hst : St 0 s.heap) (hI : g.get? I = none) (hLI : env.locals ≠ I) (hLs : ∀ q ∈ src, env.locals ≠ q.1)
    (F : Fr g env.locals s.heap m₀) (N : News g env.locals s.heap news) (h1 : ∀ p ∈ Led c₀, p ∈ news) (h2 : Off icls (Led c₀)) (h3 : AllAt m₀ (ps c₀)) (h4 : P 0 c₀)
    (hIn : ∀ p ∈ news, p.1 ≠ I)
    (turn : ∀ i v c h tk it u, i < n → PV i v → P i c → Fr g env.locals h (fun y => if y = x then some v else chain (ps c) u y) → News g env.locals h ((I, it) :: Led c) → it.cls = .type icls → AllNe I (Led c) →
      wpAny (model prog w) A (execs body env) (TPost g env.locals Led ps (P (i + 1)) icls (I, it) { s with heap := h, toks := tk } Q) E { s with heap := h, toks := tk })
    (done : ∀ c h tk u, P n c → Fr g env.locals h (chain (ps c) u) → News g env.locals h (Led c) → Q .next { s with heap := h, toks := tk }) :
    LoopAtV prog w A g env x body Q E (.ref I) s := by
  refine ⟨I, _, [I], n, PV, St, m₀, Led c₀, (fun i m nx => ∃ c, nx = Led c ∧ AllAt m (ps c) ∧ P i c ∧ Off icls (Led c)), rfl, W, ?_, ?_, ?_, hst, F, (fun p hp => N p (h1 p hp)), ⟨c₀, rfl, h3, h4, h2⟩, ?_, ?_⟩
  · intro hm
    rcases List.mem_cons.mp hm with e | hm
    · exact hLI e
    · obtain ⟨q, hq, e⟩ := List.mem_map.mp hm
      exact hLs q hq e.symm
  · intro b hb
    rw [List.mem_singleton.mp hb]; exact hI
  · intro p hp hb
    exact hIn p (h1 p hp) (List.mem_singleton.mp hb)
  · rintro i v m₁ news₁ s₁ own ⟨hh, tk, rfl⟩ hi hP ⟨c, rfl, hps, hPc, hoff⟩ hnw hown hget hall hst₁ F₁ N₁
    obtain ⟨it, hit, hcl⟩ := hob _ _ hst₁
    have hio : (I, it) ∈ own := hall I (.head _) hI it hit
    have F₂ : Fr g env.locals hh (fun y => if y = x then some v else chain (ps c) m₁ y) := by rw [chain_of hps]; exact F₁
    have N₂ : News g env.locals hh ((I, it) :: Led c) := fun p hp => by
      rcases List.mem_cons.mp hp with rfl | hp
      · exact N₁ _ (List.mem_append_left _ hio)
      · exact N₁ _ (List.mem_append_right _ hp)
    refine wpAny_mono (turn i v c hh tk it m₁ hi hP hPc F₂ N₂ hcl (allNe_of fun p hp e => hnw p hp (by rw [e]; exact .head _))) (fun f s₂ p => ?_) fun _ _ e => e
    have fin : TEnd g env.locals Led ps (P (i + 1)) icls (I, it) { s with heap := hh, toks := tk } s₂ →
        LoopStepU g env.locals [I] own (fun m nx => ∃ c, nx = Led c ∧ AllAt m (ps c) ∧ P (i + 1) c ∧ Off icls (Led c)) { s with heap := hh, toks := tk } .next s₂ := by
      rintro ⟨c', h', tk', m', news', rfl, F', N', hsub, hit', hoff', hps', hP'⟩
      refine ⟨rfl, h', tk', m', Led c', rfl, F', fun p hp => ?_, fun p hp hb => ?_, c', rfl, hps', hP', hoff'⟩
      · rcases List.mem_append.mp hp with hp | hp
        · rcases List.mem_cons.mp (hown p hp) with e | hq
          · have h5 := hget p hp
            have h6 : p = (I, it) := Prod.ext e (by
              have h7 : hh.get? p.1 = some p.2 := h5
              rw [e, hit] at h7; exact (Option.some.inj h7).symm)
            rw [h6]; exact N' _ hit'
          · obtain ⟨q, hq, e⟩ := List.mem_map.mp hq
            have h5 : hh.get? p.1 = some p.2 := hget p hp
            rcases hsrc q hq with h7 | h7
            · have h8 := (N₁ q (List.mem_append_right _ (h7 c))).1
              have h9 : p = q := Prod.ext e.symm (by rw [← e] at h5; rw [show hh.get? q.1 = some q.2 from h8] at h5; exact (Option.some.inj h5).symm)
              rw [h9]; exact N' _ (hsub.mem q (h7 c'))
            · have h8 := (N₁ p (List.mem_append_left _ hp)).2.2
              rw [← e, h7] at h8; cases h8
        · exact N' p (hsub.mem p hp)
      · have e : p.1 = I := List.mem_singleton.mp hb
        have h5 := (N' p (hsub.mem p hp)).1
        rw [e, (N' _ hit').1] at h5
        have h6 : p.2 = it := (Option.some.inj h5).symm
        exact hoff'.ne p hp (by rw [h6]; exact hcl)
    cases f with
    | ret v => exact .ret p
    | brk => exact .brk p
    | next => exact .next (fin p)
    | cont => exact .cont (fin p)
  · rintro h' tk m' news' F' N' _ ⟨c, rfl, hps, hP, _⟩
    refine done c h' tk m' hP ?_ N'
    rw [chain_of hps]; exact F'

/-- where a list or a tuple stands: in the ledger all the time, or in the ground -/
noncomputable def Stands {σ : Type} (g : Heap) (Led : σ → List (Addr × Obj)) (q : Addr × Obj) : Prop := (∀ c, q ∈ Led c) ∨ g.get? q.1 = some q.2
theorem Stands.now {σ : Type} {Led : σ → List (Addr × Obj)} {q : Addr × Obj} {L : Addr} {h : Heap} {m : Str → Option Value} {news : List (Addr × Obj)} (x : Stands g Led q) (F : Fr g L h m) (N : News g L h news) (c₀ : σ) (h1 : ∀ p ∈ Led c₀, p ∈ news) : h.get? q.1 = some q.2 ∧ q.1 ≠ L := by
  rcases x with x | x
  · have := N q (h1 q (x c₀)); exact ⟨this.1, this.2.1⟩
  · exact ⟨F.keep _ _ x, Nat.ne_of_lt (Nat.lt_of_lt_of_le (Heap.lt_size x) F.above)⟩

theorem for_list {σ : Type} {l : Addr} {vs : List Value} {nn : Nat} {m₀ : Str → Option Value} {news : List (Addr × Obj)}
    (Led : σ → List (Addr × Obj)) (ps : σ → List (Str × Value)) (P : Nat → σ → Prop) (c₀ : σ)
    (hh : A.handled = none) (hsrc : Stands g Led (l, listOf vs.toArray nn))
    (F : Fr g env.locals s.heap m₀) (N : News g env.locals s.heap news) (h1 : Sub news (Led c₀)) (h2 : Off "list_iterator" (Led c₀)) (h3 : AllAt m₀ (ps c₀)) (h4 : P 0 c₀)
    (turn : ∀ i v c h tk I it u, vs[i]? = some v → P i c → Fr g env.locals h (fun y => if y = x then some v else chain (ps c) u y) → News g env.locals h ((I, it) :: Led c) → it.cls = .type "list_iterator" → AllNe I (Led c) →
      wpAny (model prog w) A (execs body env) (TPost g env.locals Led ps (P (i + 1)) "list_iterator" (I, it) { s with heap := h, toks := tk } Q) E { s with heap := h, toks := tk })
    (done : ∀ c h tk u, P vs.length c → Fr g env.locals h (chain (ps c) u) → News g env.locals h (Led c) → Q .next { s with heap := h, toks := tk }) :
    wpAny (model prog w) A (pyIter (.ref l)) (fun it s₂ => LoopAtV prog w A g env x body Q E it s₂) E s := by
  obtain ⟨hol, hlL⟩ := hsrc.now F N c₀ h1.mem
  have hls : s.heap.IsList l vs.toArray := ⟨_, hol, rfl, nn, rfl⟩
  have hne : l ≠ s.heap.objs.size := Nat.ne_of_lt (Heap.lt_size hol)
  refine wpAny_pyIter_list hls ?_
  have W := Walks.list (prog := prog) (w := w) hh s.heap.objs.size l hne vs.toArray
  have hlen : vs.toArray.size = vs.length := by simp
  rw [hlen] at W
  refine for_core (s := { s with heap := s.heap.push _ }) (src := [(l, listOf vs.toArray nn)]) (icls := "list_iterator") Led ps P c₀ W ?_ ?_ ⟨⟨_, Heap.get?_push_size _ rfl, rfl, rfl⟩, hls.at fun o e => Heap.get?_push_of_some _ e⟩ (next_is_new F) (Nat.ne_of_lt F.ns.lt) ?_ (F.push _) (fun p hp => ⟨Heap.get?_push_of_some _ (N p hp).1, (N p hp).2⟩) h1.mem h2 h3 h4 ?_ ?_ ?_
  · rintro i h ⟨⟨o, a, b, _⟩, _⟩; exact ⟨o, a, b⟩
  · intro q hq; rw [List.mem_singleton.mp hq]; exact hsrc
  · intro q hq; rw [List.mem_singleton.mp hq]; exact fun e => hlL e.symm
  · intro p hp e; exact absurd (Heap.lt_size (N p hp).1) (e ▸ Nat.lt_irrefl _)
  · intro i v c h tk it u hi hP hPc F' N' hcl hne
    exact turn i v c h tk _ it u (by simpa using hP) hPc F' N' hcl hne
  · exact fun c h tk u a b d => done c h tk u a b d

theorem for_tup {σ : Type} {l : Addr} {vs : List Value} {nn : Nat} {m₀ : Str → Option Value} {news : List (Addr × Obj)}
    (Led : σ → List (Addr × Obj)) (ps : σ → List (Str × Value)) (P : Nat → σ → Prop) (c₀ : σ)
    (hh : A.handled = none) (hsrc : Stands g Led (l, { cls := .type "tuple", data := .seq vs.toArray nn }))
    (F : Fr g env.locals s.heap m₀) (N : News g env.locals s.heap news) (h1 : Sub news (Led c₀)) (h2 : Off "tuple_iterator" (Led c₀)) (h3 : AllAt m₀ (ps c₀)) (h4 : P 0 c₀)
    (turn : ∀ i v c h tk I it u, vs[i]? = some v → P i c → Fr g env.locals h (fun y => if y = x then some v else chain (ps c) u y) → News g env.locals h ((I, it) :: Led c) → it.cls = .type "tuple_iterator" → AllNe I (Led c) →
      wpAny (model prog w) A (execs body env) (TPost g env.locals Led ps (P (i + 1)) "tuple_iterator" (I, it) { s with heap := h, toks := tk } Q) E { s with heap := h, toks := tk })
    (done : ∀ c h tk u, P vs.length c → Fr g env.locals h (chain (ps c) u) → News g env.locals h (Led c) → Q .next { s with heap := h, toks := tk }) :
    wpAny (model prog w) A (pyIter (.ref l)) (fun it s₂ => LoopAtV prog w A g env x body Q E it s₂) E s := by
  obtain ⟨hol, hlL⟩ := hsrc.now F N c₀ h1.mem
  have hls : s.heap.IsTuple l vs.toArray := ⟨_, hol, rfl, nn, rfl⟩
  have hne : l ≠ s.heap.objs.size := Nat.ne_of_lt (Heap.lt_size hol)
  refine wpAny_pyIter_tuple hls ?_
  have W := Walks.tuple (prog := prog) (w := w) hh s.heap.objs.size l hne vs.toArray
  have hlen : vs.toArray.size = vs.length := by simp
  rw [hlen] at W
  refine for_core (s := { s with heap := s.heap.push _ }) (src := [(l, { cls := .type "tuple", data := .seq vs.toArray nn })]) (icls := "tuple_iterator") Led ps P c₀ W ?_ ?_ ⟨⟨_, Heap.get?_push_size _ rfl, rfl, rfl⟩, hls.at fun o e => Heap.get?_push_of_some _ e⟩ (next_is_new F) (Nat.ne_of_lt F.ns.lt) ?_ (F.push _) (fun p hp => ⟨Heap.get?_push_of_some _ (N p hp).1, (N p hp).2⟩) h1.mem h2 h3 h4 ?_ ?_ ?_
  · rintro i h ⟨⟨o, a, b, _⟩, _⟩; exact ⟨o, a, b⟩
  · intro q hq; rw [List.mem_singleton.mp hq]; exact hsrc
  · intro q hq; rw [List.mem_singleton.mp hq]; exact fun e => hlL e.symm
  · intro p hp e; exact absurd (Heap.lt_size (N p hp).1) (e ▸ Nat.lt_irrefl _)
  · intro i v c h tk it u hi hP hPc F' N' hcl hne
    exact turn i v c h tk _ it u (by simpa using hP) hPc F' N' hcl hne
  · exact fun c h tk u a b d => done c h tk u a b d
end
end
section
set_option maxHeartbeats 400000

theorem news_add {g h h' : Heap} {L a : Addr} {o : Obj} {m : Str → Option Value} {news : List (Addr × Obj)} (k : Keeps h h') (fr : h.get? a = none) (ob : h'.get? a = some o) (F : Fr g L h m) (N : News g L h news) :
    News g L h' ((a, o) :: news) := fun p hp => by
  rcases List.mem_cons.mp hp with e | hp
  · rw [e]
    refine ⟨ob, fun e2 => ?_, ?_⟩
    · obtain ⟨oL, _, _, hL, _⟩ := F.ns
      rw [show a = L from e2, hL] at fr; cases fr
    · cases q : g.get? a with
      | none => rfl
      | some o' => rw [F.keep _ _ q] at fr; cases fr
  · exact ⟨k _ _ (N p hp).1, (N p hp).2⟩
theorem news_ne {g h : Heap} {L a : Addr} {news : List (Addr × Obj)} (fr : h.get? a = none) (N : News g L h news) : AllNe a news :=
  allNe_of fun p hp e => by rw [← e, (N p hp).1] at fr; cases fr

noncomputable abbrev tupOf (vs : List Value) (n : Nat := 0) : Obj := { cls := .type "tuple", data := .seq vs.toArray n }

theorem slash_len : (Str.ofString "/").length = 1 := by decide +kernel

/-- one more part behind a path -/
noncomputable def joinStep (path b : Str) : Str :=
  if Txt.startswith b (Str.ofString "/") = true ∨ path.length = 0 then b
  else if Txt.endswith path (Str.ofString "/") = true then path ++ b else path ++ ((Str.ofString "/") ++ b)
theorem joinStep_len (p b : Str) : (joinStep p b).length ≤ p.length + (b.length + 1) := by
  unfold joinStep
  have := slash_len
  split
  · omega
  · split <;> simp only [PySem.Str.length_append] <;> omega
theorem foldJoin_len (ys : List Str) : ∀ x : Str, (ys.foldl joinStep x).length ≤ x.length + (ys.map fun y => y.length + 1).sum := by
  induction ys with
  | nil => intro x; simp
  | cons y r ih =>
    intro x
    have h1 := ih (joinStep x y)
    have h2 := joinStep_len x y
    simp only [List.foldl_cons, List.map_cons, List.sum_cons]
    omega
theorem sum_take_le (l : List Nat) : ∀ i, (l.take i).sum ≤ l.sum := by
  induction l with
  | nil => intro i; simp
  | cons a r ih => intro i; cases i with
    | zero => simp
    | succ i => simp only [List.take_succ_cons, List.sum_cons]; have := ih i; omega
theorem joinStep_abs {p b : Str} (h : Txt.startswith b (Str.ofString "/") = true) : joinStep p b = b := by unfold joinStep; rw [if_pos (.inl h)]
theorem joinStep_nil {p b : Str} (h : (p.length : Int) = 0) : joinStep p b = b := by unfold joinStep; rw [if_pos (.inr (by omega))]
theorem joinStep_end {p b : Str} (h1 : Txt.startswith b (Str.ofString "/") = false) (h2 : (p.length : Int) ≠ 0) (h3 : Txt.endswith p (Str.ofString "/") = true) : joinStep p b = p ++ b := by
  unfold joinStep; rw [if_neg (by rw [h1]; simp; omega), if_pos h3]
theorem joinStep_mid {p b : Str} (h1 : Txt.startswith b (Str.ofString "/") = false) (h2 : (p.length : Int) ≠ 0) (h3 : Txt.endswith p (Str.ofString "/") = false) : joinStep p b = p ++ ((Str.ofString "/") ++ b) := by
  unfold joinStep; rw [if_neg (by rw [h1]; simp; omega), if_neg (by rw [h3]; simp)]
theorem sum_len_le (ys : List Str) : ys.length ≤ (ys.map fun y => y.length + 1).sum := by
  induction ys with
  | nil => simp
  | cons y r ih => simp only [List.length_cons, List.map_cons, List.sum_cons]; omega
theorem strsAre_get {vs : List Value} {ys : List Str} (h : StrsAre vs ys) : ∀ {i : Nat} {v : Value}, vs[i]? = some v → ∃ y t, v = .str y t ∧ ys[i]? = some y := by
  induction h with
  | nil => intro i v e; simp at e
  | cons y t _ ih =>
    intro i v e
    cases i with
    | zero => simp at e; exact ⟨y, t, e.symm, rfl⟩
    | succ i => simp at e; obtain ⟨y', t', a, b⟩ := ih e; exact ⟨y', t', a, by simpa using b⟩
theorem strsAre_len {vs : List Value} {ys : List Str} (h : StrsAre vs ys) : vs.length = ys.length := by
  induction h with
  | nil => rfl
  | cons y t _ ih => simp [ih]
theorem strsAre_app {vs ws : List Value} {ys zs : List Str} (h : StrsAre vs ys) (k : StrsAre ws zs) : StrsAre (vs ++ ws) (ys ++ zs) := by
  induction h with
  | nil => exact k
  | cons y t _ ih => exact .cons y t ih
theorem strsAre_snoc {vs : List Value} {ys : List Str} (h : StrsAre vs ys) (y : Str) (t : Tok) : StrsAre (vs ++ [.str y t]) (ys ++ [y]) := strsAre_app h (.cons y t .nil)
theorem take_foldl {α β : Type} (f : β → α → β) (l : List α) (b : β) {i : Nat} {a : α} (h : l[i]? = some a) : (l.take (i + 1)).foldl f b = f ((l.take i).foldl f b) a := by
  rw [List.take_add_one, h]; simp

/-- what split hands back, as the text reckons it -/
noncomputable def splitS (x : Str) : Str × Str :=
  let i := Txt.rfind x (Str.ofString "/") + 1
  let hd := Txt.slice x none (some i)
  let tl := Txt.slice x (some i) none
  if (hd.length : Int) = 0 then (hd, tl)
  else if (hd != Txt.mul (Str.ofString "/") (hd.length : Int)) = true then (Txt.rstripChars hd (Str.ofString "/"), tl) else (hd, tl)
/-- what splitroot hands back, as the text reckons it: the root and the rest -/
noncomputable def rootS (x : Str) : Str × Str :=
  if (Txt.slice x none (some 1) != Str.ofString "/") = true then (Str.ofString "", x)
  else if (Txt.slice x (some 1) (some 2) != Str.ofString "/") = true ∨ (Txt.slice x (some 2) (some 3) == Str.ofString "/") = true then (Str.ofString "/", Txt.slice x (some 1) none)
  else (Txt.slice x none (some 2), Txt.slice x (some 2) none)
theorem rootS_len (x : Str) : (rootS x).2.length ≤ x.length ∧ (rootS x).1.length ≤ 2 := by
  have s0 : (Str.ofString "").length = 0 := by decide +kernel
  have s1 := slash_len
  have s2 : (Txt.slice x none (some 2)).length ≤ 2 := by
    by_cases h : x.length ≤ 2
    · exact Nat.le_trans (Txt.slice_le _ _ _) h
    · have e : Txt.slice x none (some 2) = _ := StrLaws.sliceText_to (x := x) (j := 2) ⟨by decide, by show (2 : Int) ≤ (x.cps.toList.length : Nat); rw [Array.length_toList]; have : x.cps.size = x.length := rfl; omega⟩
      rw [e]
      show (List.take _ _).toArray.size ≤ 2
      simp; omega
  unfold rootS
  split
  · exact ⟨Nat.le_refl _, by show (Str.ofString "").length ≤ 2; omega⟩
  · split
    · exact ⟨Txt.slice_le _ _ _, by show (Str.ofString "/").length ≤ 2; omega⟩
    · exact ⟨Txt.slice_le _ _ _, s2⟩

section
variable {prog : Program} {w : World} {A : Around} {E : Value → Shared → Prop} {s : Shared} {g : Heap} {L D : Addr} {m : Str → Option Value} {news news' : List (Addr × Obj)}
theorem ltruthy {vs : List Value} {n : Nat} {b : Bool} {Q : Bool → Shared → Prop} (N : News g L s.heap news) (hm : (D, listOf vs.toArray n) ∈ news) (hb : (!vs.isEmpty) = b) (hz : vs.length ≤ 16777216)
    (h : ∀ tk, Q b { s with toks := tk }) : wpAny (model prog w) A (truthy (.ref D)) Q E s :=
  wpAny_truthy_list ⟨_, (N _ hm).1, rfl, n, rfl⟩ (by rw [List.size_toArray]; omega) (by
    have e : (!vs.toArray.isEmpty) = b := by rw [← hb]; simp
    rw [e]; exact h _)
theorem lgetneg {vs : List Value} {y : Value} {n : Nat} {t : Tok} {Q : Value → Shared → Prop} (N : News g L s.heap news) (hm : (D, listOf (vs ++ [y]).toArray n) ∈ news)
    (h : Q y s) : wpAny (model prog w) A (getItem (.ref D) (.int (-1) t)) Q E s :=
  wpAny_getItem_list_neg (items := (vs ++ [y]).toArray) ⟨_, (N _ hm).1, rfl, n, rfl⟩ (by decide) (by simp; omega) (by decide) (by
    have e : (-1 + ((vs ++ [y]).toArray.size : Int)).toNat = vs.length := by rw [List.size_toArray, List.length_append]; exact neg1n _
    rw [e]; simp) h
theorem lpop {vs : List Value} {y : Value} {n : Nat} {Q : Value → Shared → Prop} (F : Fr g L s.heap m) (N : News g L s.heap news) (U : Upd D (listOf (vs ++ [y]).toArray n) (listOf vs.toArray (n + 1)) news news') (hz : vs.length + 1 ≤ sizeLine)
    (h : ∀ h', Fr g L h' m → News g L h' news' → Q y { s with heap := h' }) : wpAny (model prog w) A (call (.builtin "list.pop") [.ref D]) Q E s :=
  kl_pop F N (kpa_last y vs) U (by simpa using hz) h
theorem lappend {vs : List Value} {n : Nat} {x : Value} {Q : Value → Shared → Prop} (F : Fr g L s.heap m) (N : News g L s.heap news) (U : Upd D (listOf vs.toArray n) (listOf (vs ++ [x]).toArray (n + 1)) news news') (hz : vs.length ≤ sizeLine)
    (h : ∀ h', Fr g L h' m → News g L h' news' → Q .none { s with heap := h' }) : wpAny (model prog w) A (call (.builtin "list.append") [.ref D, x]) Q E s :=
  append_K F N (its := vs.toArray) (by rw [List.push_toArray]; exact U) h (by rw [List.size_toArray]; exact hz)
end
/-- one more part in normpath's list -/
noncomputable def normStep (cs : List Str) (c : Str) : List Str :=
  if (c.length : Int) = 0 ∨ (c == Str.ofString ".") = true then cs
  else if (c != Str.ofString "..") = true then cs ++ [c]
  else if (cs.getLast?.map fun y => y == Str.ofString "..") = some true then cs ++ [c]
  else cs.dropLast
noncomputable def normS (x : Str) : Str := (rootS x).1 ++ Str.join (Str.ofString "/") ((Txt.split (rootS x).2 (Str.ofString "/")).foldl normStep [])
theorem join_parts_len : ∀ ys : List Str, ys.length ≤ (Str.join (Str.ofString "/") ys).length + 1
  | [] => by simp
  | [y] => by simp
  | y :: z :: r => by
    have h := join_parts_len (z :: r)
    have s1 := slash_len
    show (y :: z :: r).length ≤ (y ++ Str.ofString "/" ++ Str.join (Str.ofString "/") (z :: r)).length + 1
    rw [PySem.Str.length_append, PySem.Str.length_append]
    simp only [List.length_cons] at h ⊢; omega
theorem split_count (x : Str) : (Txt.split x (Str.ofString "/")).length ≤ x.length + 1 := by
  have h := join_parts_len (Txt.split x (Str.ofString "/"))
  rwa [StrLaws.join_split] at h
theorem normStep_len (cs : List Str) (c : Str) : (normStep cs c).length ≤ cs.length + 1 := by
  unfold normStep
  split
  · omega
  · split
    · simp
    · split
      · simp
      · simp; omega
theorem foldNorm_len (ys : List Str) : ∀ cs : List Str, (ys.foldl normStep cs).length ≤ cs.length + ys.length := by
  induction ys with
  | nil => intro cs; simp
  | cons y r ih => intro cs; have h := ih (normStep cs y); have k := normStep_len cs y; simp only [List.foldl_cons, List.length_cons]; omega
theorem strsAre_unsnoc {vs : List Value} {v : Value} {zs : List Str} (h : StrsAre (vs ++ [v]) zs) : ∃ ys y t, v = .str y t ∧ zs = ys ++ [y] ∧ StrsAre vs ys := by
  induction vs generalizing zs with
  | nil =>
    cases h with
    | cons y t h => cases h; exact ⟨[], y, t, rfl, rfl, .nil⟩
  | cons a r ih =>
    cases h with
    | cons y t h =>
      obtain ⟨ys, z, t', e1, e2, e3⟩ := ih h
      exact ⟨y :: ys, z, t', e1, by rw [e2]; rfl, .cons y t e3⟩
theorem normStep_skip {cs : List Str} {c : Str} (h : (c.length : Int) = 0 ∨ (c == Str.ofString ".") = true) : normStep cs c = cs := by unfold normStep; rw [if_pos h]
theorem normStep_in {cs : List Str} {c : Str} (h1 : (c.length : Int) ≠ 0) (h2 : (c == Str.ofString ".") = false) (h3 : (c != Str.ofString "..") = true) : normStep cs c = cs ++ [c] := by
  unfold normStep; rw [if_neg (by rw [h2]; simpa using h1), if_pos h3]
theorem normStep_in2 {cs : List Str} {c y : Str} (h1 : (c.length : Int) ≠ 0) (h2 : (c == Str.ofString ".") = false) (h3 : (c != Str.ofString "..") = false) (h4 : (y == Str.ofString "..") = true) : normStep (cs ++ [y]) c = cs ++ [y] ++ [c] := by
  unfold normStep; rw [if_neg (by rw [h2]; simpa using h1), if_neg (by rw [h3]; simp), if_pos (by simp [h4])]
theorem normStep_up {cs : List Str} {c y : Str} (h1 : (c.length : Int) ≠ 0) (h2 : (c == Str.ofString ".") = false) (h3 : (c != Str.ofString "..") = false) (h4 : (y == Str.ofString "..") = false) : normStep (cs ++ [y]) c = cs := by
  unfold normStep; rw [if_neg (by rw [h2]; simpa using h1), if_neg (by rw [h3]; simp), if_neg (by simp [h4])]; simp
theorem normStep_nil {c : Str} (h1 : (c.length : Int) ≠ 0) (h2 : (c == Str.ofString ".") = false) (h3 : (c != Str.ofString "..") = false) : normStep [] c = [] := by
  unfold normStep; rw [if_neg (by rw [h2]; simpa using h1), if_neg (by rw [h3]; simp)]; rfl
theorem lsnoc {α : Type} (l : List α) : l = [] ∨ ∃ a b, l = a ++ [b] := by
  rcases List.eq_nil_or_concat l with h | ⟨a, b, h⟩
  · exact .inl h
  · exact .inr ⟨a, b, by rw [h, List.concat_eq_append]⟩
theorem strsAre_values {vs : List Value} {ys : List Str} (h : StrsAre vs ys) : ∃ l, vs = strValues l ∧ l.map (·.1) = ys := by
  induction h with
  | nil => exact ⟨[], rfl, rfl⟩
  | cons y t _ ih => obtain ⟨l, e1, e2⟩ := ih; exact ⟨(y, t) :: l, by rw [e1]; rfl, by rw [← e2]; rfl⟩
theorem normStep_mem {cs : List Str} {c y : Str} (h : y ∈ normStep cs c) : y ∈ cs ∨ y = c := by
  unfold normStep at h
  split at h
  · exact .inl h
  · split at h
    · simpa using h
    · split at h
      · simpa using h
      · exact .inl (List.dropLast_subset _ h)
theorem foldNorm_mem (ys : List Str) : ∀ (cs : List Str) {y : Str}, y ∈ ys.foldl normStep cs → y ∈ cs ∨ y ∈ ys := by
  induction ys with
  | nil => intro cs y h; exact .inl h
  | cons a r ih =>
    intro cs y h
    rcases ih _ h with h | h
    · rcases normStep_mem h with h | h
      · exact .inl h
      · exact .inr (by rw [h]; exact .head _)
    · exact .inr (.tail _ h)
section
variable {prog : Program} {w : World} {A : Around} {E : Value → Shared → Prop} {s : Shared} {g : Heap} {L D : Addr} {m : Str → Option Value} {news news' : List (Addr × Obj)}
theorem ljoin {vs : List Value} {ys : List Str} {n : Nat} {x : Str} {t : Tok} {Q : Value → Shared → Prop} (N : News g L s.heap news) (hm : (D, listOf vs.toArray n) ∈ news) (hi : StrsAre vs ys)
    (hz : (ys.map (·.length)).sum + ys.length * x.length ≤ 16777216) (hq : ∀ t' k, Q (.str (Str.join x ys) t') { s with toks := k }) : wpAny (model prog w) A (call (.builtin "str.join") [.str x t, .ref D]) Q E s := by
  obtain ⟨l, rfl, hl⟩ := strsAre_values hi
  refine SC.join (texts := ys) ⟨_, (N _ hm).1, rfl, n, rfl⟩ hl ?_ (by rw [show Txt.join x ys = Str.join x ys from StrLaws.glued_eq_join _ _]; exact hq)
  unfold JoinOk Builtin.Str.tooLong
  rw [StrLaws.joinTotal, sizeLine_eq]
  simp only [Bool.not_eq_true', decide_eq_false_iff_not]
  omega
end
theorem norm_sum {x : Str} (hx : x.length ≤ 1000) :
    (((Txt.split (rootS x).2 (Str.ofString "/")).foldl normStep []).map (·.length)).sum + ((Txt.split (rootS x).2 (Str.ofString "/")).foldl normStep []).length * (Str.ofString "/").length ≤ 1002001 := by
  have h1 := rootS_len x
  have h2 := split_count (rootS x).2
  have h3 := foldNorm_len (Txt.split (rootS x).2 (Str.ofString "/")) []
  have h4 := StrLaws.sumLen_le (B := 1000) ((Txt.split (rootS x).2 (Str.ofString "/")).foldl normStep []) fun y hy => by
    rcases foldNorm_mem _ _ hy with h | h
    · cases h
    · have := part_short h; omega
  have h5 := slash_len
  rw [h5]
  simp only [List.length_nil] at h3
  have h6 : ((Txt.split (rootS x).2 (Str.ofString "/")).foldl normStep []).length ≤ 1001 := by omega
  have h7 : ((Txt.split (rootS x).2 (Str.ofString "/")).foldl normStep []).length * 1000 ≤ 1001 * 1000 := Nat.mul_le_mul_right _ h6
  omega
end
section
set_option maxHeartbeats 400000
theorem ne_cls {g h : Heap} {L a b : Addr} {o1 o2 : Obj} {news : List (Addr × Obj)} (N : News g L h news) (h1 : (a, o1) ∈ news) (h2 : (b, o2) ∈ news) (hc : o1.cls ≠ o2.cls) : @Ne Nat a b := fun e => by
  have e1 := (N _ h1).1
  have e2 := (N _ h2).1
  dsimp only at e1 e2
  rw [show a = b from e, e2] at e1
  exact hc (congrArg Obj.cls (Option.some.inj e1)).symm
/-- where the walk stands still -/
noncomputable def Stop (p : Prop) : Prop := p
theorem stop {p : Prop} (h : Stop p) : p := h
/-- the end of a while's turn -/
noncomputable def WEnd {σ : Type} (g : Heap) (L : Addr) (Led : σ → List (Addr × Obj)) (ps : σ → List (Str × Value)) (P : σ → Prop) (μ : σ → Nat) (k : Nat) (s₁ s₂ : Shared) : Prop :=
  ∃ c h' tk m' news', s₂ = { s₁ with heap := h', toks := tk } ∧ Fr g L h' m' ∧ News g L h' news' ∧ Sub news' (Led c) ∧ AllAt m' (ps c) ∧ P c ∧ μ c < k
noncomputable def WPost {σ : Type} (g : Heap) (L : Addr) (Led : σ → List (Addr × Obj)) (ps : σ → List (Str × Value)) (P : σ → Prop) (μ : σ → Nat) (k : Nat) (s₁ : Shared) (Q : Flow → Shared → Prop) (f : Flow) (s₂ : Shared) : Prop :=
  match f with
  | .ret v => Q (.ret v) s₂
  | .brk => Q .next s₂
  | _ => WEnd g L Led ps P μ k s₁ s₂
theorem WEnd.intro {σ : Type} {g : Heap} {L : Addr} {Led : σ → List (Addr × Obj)} {ps : σ → List (Str × Value)} {P : σ → Prop} {μ : σ → Nat} {k : Nat} {s₁ : Shared} (c : σ) {h' : Heap} {tk : Nat} {m' : Str → Option Value} {news' : List (Addr × Obj)}
    (F : Fr g L h' m') (N : News g L h' news') (h1 : Sub news' (Led c)) (h4 : AllAt m' (ps c)) (h5 : P c) (h6 : μ c < k) : WEnd g L Led ps P μ k s₁ { s₁ with heap := h', toks := tk } :=
  ⟨c, h', tk, m', news', rfl, F, N, h1, h4, h5, h6⟩
section
variable {prog : Program} {w : World} {A : Around} {E : Value → Shared → Prop} {s : Shared} {env : Env} {g : Heap} {L : Addr} {Q : Flow → Shared → Prop}
theorem while_st {σ : Type} {test : Expr} {body : List Stmt} {pos : Pos} {m₀ : Str → Option Value} {news : List (Addr × Obj)}
    (Led : σ → List (Addr × Obj)) (ps : σ → List (Str × Value)) (P : σ → Prop) (μ : σ → Nat) (c₀ : σ)
    (F : Fr g L s.heap m₀) (N : News g L s.heap news) (h1 : Sub news (Led c₀)) (h3 : AllAt m₀ (ps c₀)) (h4 : P c₀)
    (turn : ∀ c h tk u, P c → Fr g L h (chain (ps c) u) → News g L h (Led c) →
      wpAny (model prog w) A (isTrue test env (eval test env)) (fun b s₂ => WhlIf b (wpAny (model prog w) A (execs body env) (WPost g L Led ps P μ (μ c) { s with heap := h, toks := tk } Q) E s₂) (Q .next s₂)) E { s with heap := h, toks := tk })
    (hE : PassesOwn (model prog w) A env E := by passes_own) :
    wpAny (model prog w) A (exec (.While test body [] pos) env) Q E s := by
  refine While_inv2 (fun n m nx => ∃ c : σ, nx = Led c ∧ μ c = n ∧ AllAt m (ps c) ∧ P c) F (fun p hp => N p (h1.mem p hp)) ⟨c₀, rfl, rfl, h3, h4⟩ ?_ hE
  rintro n m₁ nx h tk F₁ N₁ ⟨c, rfl, hsz, hps, hP⟩
  have F₂ : Fr g L h (chain (ps c) m₁) := by rw [chain_of hps]; exact F₁
  refine wpAny_mono (turn c h tk m₁ hP F₂ N₁) (fun b s₂ p => ?_) fun _ _ x => x
  cases b with
  | false => unfold WhlIf at p; simpa using p
  | true =>
    unfold WhlIf at p
    simp only [if_true] at p ⊢
    have fin : ∀ s₃, WEnd g L Led ps P μ (μ c) { s with heap := h, toks := tk } s₃ → ∃ h' tk m₂ news₂ n', s₃ = { s with heap := h', toks := tk } ∧ Fr g L h' m₂ ∧ News g L h' news₂ ∧ n' < n ∧ ∃ c : σ, news₂ = Led c ∧ μ c = n' ∧ AllAt m₂ (ps c) ∧ P c := by
      rintro s₃ ⟨c', h', tk', m', news', rfl, F', N', hsub, hps', hP', hm⟩
      exact ⟨h', tk', m', Led c', μ c', rfl, F', fun p hp => N' p (hsub.mem p hp), by omega, c', rfl, rfl, hps', hP'⟩
    refine wpAny_mono p (fun f s₃ q => ?_) fun _ _ x => x
    cases f with
    | ret v => exact q
    | brk => exact q
    | next => exact fin _ q
    | cont => exact fin _ q
end
end
section
/-- the statement at a place of the text -/
noncomputable def stAt (i : Nat) : Stmt := (PySem.Challenge.pw_il0142_02.main.body[i]?).getD (.Pass ⟨0, 0, 0, 0⟩)
noncomputable def inClass (st : Stmt) (i : Nat) : Stmt := match st with
  | .ClassDef _ _ _ body _ _ _ _ _ _ _ => (body[i]?).getD (.Pass ⟨0, 0, 0, 0⟩)
  | _ => .Pass ⟨0, 0, 0, 0⟩
/-- a def's function object -/
noncomputable def fnAt (st : Stmt) (qual : Str) (cl : List (Str × Addr)) (pm : Value) (c : Addr) (ct : Value) : Obj := match st with
  | .FunctionDef name args body _ _ _ scope _ _ _ => { cls := .type "function", data := .func { name := name, qualname := qual, params := args, body := .stmts body, scope := scope, globals := 3, closure := cl, defaults := .none, kwdefaults := .none, pyModule := pm, code := .ref c, closureTuple := ct } }
  | _ => default
/-- the written part of the heap -/
noncomputable def K2 : Params → Frag := fun P =>
  (nat_lit 2, { cls := Value.none, data := Data.dict #[{ hash := PyData.keyHash P (Str.ofString "\x69mport.loaded._collections"), key := Value.str (Str.ofString "\x69mport.loaded._collections") 185, val := Value.bool true }, { hash := PyData.keyHash P (Str.ofString "class._frozen_importlib.BuiltinImporter"), key := Value.str (Str.ofString "class._frozen_importlib.BuiltinImporter") 187, val := Value.ref 15 }, { hash := PyData.keyHash P (Str.ofString "watched.\x69mport"), key := Value.str (Str.ofString "watched.\x69mport") 208, val := Value.ref 19 }, { hash := PyData.keyHash P (Str.ofString "class._frozen_importlib.ModuleSpec"), key := Value.str (Str.ofString "class._frozen_importlib.ModuleSpec") 218, val := Value.ref 23 }, { hash := PyData.keyHash P (Str.ofString "sys.modules.booked-epoch"), key := Value.str (Str.ofString "sys.modules.booked-epoch") 247, val := Value.int 3 0 }, { hash := PyData.keyHash P (Str.ofString "sys.modules.landed._collections"), key := Value.str (Str.ofString "sys.modules.landed._collections") 248, val := Value.bool true }, { hash := PyData.keyHash P (Str.ofString "\x69mport.later-laid._collections"), key := Value.str (Str.ofString "\x69mport.later-laid._collections") 263, val := Value.bool true }, { hash := PyData.keyHash P (Str.ofString "watched.library"), key := Value.str (Str.ofString "watched.library") 265, val := Value.ref 28 }, { hash := PyData.keyHash P (Str.ofString "watched.library-objects"), key := Value.str (Str.ofString "watched.library-objects") 0, val := Value.str (Str.ofString "\x0d") 0 }, { hash := PyData.keyHash P (Str.ofString "watched.library-deep._collections"), key := Value.str (Str.ofString "watched.library-deep._collections") 266, val := Value.str (Str.ofString "\x04\x00\x00\x0c\x04\x00\x00\x0c\x04\x00\x00\x03\x04\x00\x00\x0c\x08\x04dict\x02") 0 }, { hash := PyData.keyHash P (Str.ofString "type.__subclasses__.collections.defaultdict.0"), key := Value.str (Str.ofString "type.__subclasses__.collections.defaultdict.0") 325, val := Value.int 65 0 }, { hash := PyData.keyHash P (Str.ofString "type.__subclasses__.collections.defaultdict.n"), key := Value.str (Str.ofString "type.__subclasses__.collections.defaultdict.n") 326, val := Value.int 1 0 }] 12 }) ::
  (nat_lit 3, { cls := Value.type "dict", data := Data.dict #[{ hash := PyData.keyHash P (Str.ofString "__name__"), key := Value.str (Str.ofString "__name__") 165, val := Value.str (Str.ofString "law_il0142_02") 496 }, { hash := PyData.keyHash P (Str.ofString "__doc__"), key := Value.str (Str.ofString "__doc__") 166, val := Value.none }, { hash := PyData.keyHash P (Str.ofString "__package__"), key := Value.str (Str.ofString "__package__") 167, val := Value.none }, { hash := PyData.keyHash P (Str.ofString "__loader__"), key := Value.str (Str.ofString "__loader__") 168, val := Value.builtin "__main__.__loader__#opaque" }, { hash := PyData.keyHash P (Str.ofString "__spec__"), key := Value.str (Str.ofString "__spec__") 169, val := Value.none }, { hash := PyData.keyHash P (Str.ofString "__annotations__"), key := Value.str (Str.ofString "__annotations__") 170, val := Value.ref 6 }, { hash := PyData.keyHash P (Str.ofString "__builtins__"), key := Value.str (Str.ofString "__builtins__") 171, val := Value.ref 4 }, { hash := PyData.keyHash P (Str.ofString "__file__"), key := Value.str (Str.ofString "__file__") 173, val := Value.str (Str.ofString "/claim/cut.py") 172 }, { hash := PyData.keyHash P (Str.ofString "__cached__"), key := Value.str (Str.ofString "__cached__") 174, val := Value.none }, { hash := PyData.keyHash P (Str.ofString "defaultdict"), key := Value.str (Str.ofString "defaultdict") 272, val := Value.type "collections.defaultdict" }, { hash := PyData.keyHash P (Str.ofString "_wall"), key := Value.str (Str.ofString "_wall") 285, val := Value.ref 39 }, { hash := PyData.keyHash P (Str.ofString "FreezableDefaultDict"), key := Value.str (Str.ofString "FreezableDefaultDict") 328, val := Value.ref 65 }, { hash := PyData.keyHash P (Str.ofString "_plain_name"), key := Value.str (Str.ofString "_plain_name") 339, val := Value.ref 76 }, { hash := PyData.keyHash P (Str.ofString "ABCMeta"), key := Value.str (Str.ofString "ABCMeta") 365, val := Value.ref 93 }, { hash := PyData.keyHash P (Str.ofString "_ABCLike"), key := Value.str (Str.ofString "_ABCLike") 408, val := Value.ref 126 }, { hash := PyData.keyHash P (Str.ofString "_abc_plain_meta"), key := Value.str (Str.ofString "_abc_plain_meta") 415, val := Value.ref 135 }, { hash := PyData.keyHash P (Str.ofString "fspath"), key := Value.str (Str.ofString "fspath") 427, val := Value.ref 142 }, { hash := PyData.keyHash P (Str.ofString "_check_arg_types"), key := Value.str (Str.ofString "_check_arg_types") 440, val := Value.ref 149 }, { hash := PyData.keyHash P (Str.ofString "_get_sep"), key := Value.str (Str.ofString "_get_sep") 449, val := Value.ref 156 }, { hash := PyData.keyHash P (Str.ofString "join"), key := Value.str (Str.ofString "join") 460, val := Value.ref 163 }, { hash := PyData.keyHash P (Str.ofString "split"), key := Value.str (Str.ofString "split") 471, val := Value.ref 170 }, { hash := PyData.keyHash P (Str.ofString "splitroot"), key := Value.str (Str.ofString "splitroot") 480, val := Value.ref 177 }, { hash := PyData.keyHash P (Str.ofString "normpath"), key := Value.str (Str.ofString "normpath") 495, val := Value.ref 184 }, { hash := PyData.keyHash P (Str.ofString "_law_folder"), key := Value.str (Str.ofString "_law_folder") 503, val := Value.ref 191 }, { hash := PyData.keyHash P (Str.ofString "_law_steps"), key := Value.str (Str.ofString "_law_steps") 513, val := Value.ref 198 }, { hash := PyData.keyHash P (Str.ofString "_law_parts"), key := Value.str (Str.ofString "_law_parts") 523, val := Value.ref 205 }, { hash := PyData.keyHash P (Str.ofString "_law_found"), key := Value.str (Str.ofString "_law_found") 533, val := Value.ref 212 }, { hash := PyData.keyHash P (Str.ofString "_law_written"), key := Value.str (Str.ofString "_law_written") 544, val := Value.ref 219 }, { hash := PyData.keyHash P (Str.ofString "_law_deed"), key := Value.str (Str.ofString "_law_deed") 558, val := Value.ref 226 }, { hash := PyData.keyHash P (Str.ofString "_law_names"), key := Value.str (Str.ofString "_law_names") 568, val := Value.ref 233 }, { hash := PyData.keyHash P (Str.ofString "_law_in"), key := Value.str (Str.ofString "_law_in") 574, val := Value.ref 238 }, { hash := PyData.keyHash P (Str.ofString "_law_below"), key := Value.str (Str.ofString "_law_below") 584, val := Value.ref 245 }, { hash := PyData.keyHash P (Str.ofString "_law_due"), key := Value.str (Str.ofString "_law_due") 590, val := Value.ref 250 }, { hash := PyData.keyHash P (Str.ofString "law"), key := Value.str (Str.ofString "law") 596, val := Value.ref 255 }] 34 }) ::
  (nat_lit 40, { cls := Value.type "tuple", data := Data.seq #[Value.type "collections.defaultdict"] }) ::
  (nat_lit 43, { cls := Value.type "cell", data := Data.cell (some (Value.ref 65)) }) ::
  (nat_lit 48, { cls := Value.type "tuple", data := Data.seq #[Value.ref 43] }) ::
  (nat_lit 54, { cls := Value.type "code", data := Data.fields #[Value.str (Str.ofString "__missing__") 300, Value.str (Str.ofString "FreezableDefaultDict.__missing__") 301, Value.str (Str.ofString "/claim/cut.py") 302, Value.int 8 0, Value.int 2 0, Value.int 0 0, Value.int 0 0, Value.int 3 0, Value.ref 49, Value.bool true, Value.int 273 0, Value.ref 50, Value.none, Value.ref 51, Value.ref 52, Value.ref 53, Value.int 306 0, Value.int 8 0, Value.str (Str.ofString "/claim/cut.py") 307] }) ::
  (nat_lit 55, fnAt (inClass (stAt 3) 0) (Str.ofString "FreezableDefaultDict.__missing__") [(Str.ofString "__class__", 43)] (Value.str (Str.ofString "cpy313.importlib.metadata._collections") 286) 54 (Value.ref 48)) ::
  (nat_lit 61, { cls := Value.type "code", data := Data.fields #[Value.str (Str.ofString "freeze") 309, Value.str (Str.ofString "FreezableDefaultDict.freeze") 310, Value.str (Str.ofString "/claim/cut.py") 311, Value.int 11 0, Value.int 1 0, Value.int 0 0, Value.int 0 0, Value.int 3 0, Value.ref 56, Value.bool true, Value.int 273 0, Value.ref 57, Value.none, Value.ref 58, Value.ref 59, Value.ref 60, Value.int 314 0, Value.int 11 0, Value.str (Str.ofString "/claim/cut.py") 315] }) ::
  (nat_lit 62, fnAt (inClass (stAt 3) 1) (Str.ofString "FreezableDefaultDict.freeze") [] (Value.str (Str.ofString "cpy313.importlib.metadata._collections") 286) 61 .none) ::
  (nat_lit 63, { cls := Value.type "tuple", data := Data.seq #[Value.str (Str.ofString "_frozen") 317] }) ::
  (nat_lit 64, { cls := Value.type "dict", data := Data.dict #[{ hash := PyData.keyHash P (Str.ofString "__module__"), key := Value.str (Str.ofString "__module__") 295, val := Value.str (Str.ofString "cpy313.importlib.metadata._collections") 286 }, { hash := PyData.keyHash P (Str.ofString "__firstlineno__"), key := Value.str (Str.ofString "__firstlineno__") 299, val := Value.int 6 298 }, { hash := PyData.keyHash P (Str.ofString "__missing__"), key := Value.str (Str.ofString "__missing__") 308, val := Value.ref 55 }, { hash := PyData.keyHash P (Str.ofString "freeze"), key := Value.str (Str.ofString "freeze") 316, val := Value.ref 62 }, { hash := PyData.keyHash P (Str.ofString "__static_attributes__"), key := Value.str (Str.ofString "__static_attributes__") 318, val := Value.ref 63 }, { hash := PyData.keyHash P (Str.ofString "__dict__"), key := Value.str (Str.ofString "__dict__") 321, val := Value.ref 66 }, { hash := PyData.keyHash P (Str.ofString "__weakref__"), key := Value.str (Str.ofString "__weakref__") 323, val := Value.ref 67 }, { hash := PyData.keyHash P (Str.ofString "__doc__"), key := Value.str (Str.ofString "__doc__") 324, val := Value.none }] 5 }) ::
  (nat_lit 65, { cls := Value.type "type", data := Data.cls { name := Str.ofString "FreezableDefaultDict", bases := [Value.type "collections.defaultdict"], mro := [Value.ref 65, Value.type "collections.defaultdict", Value.type "dict", Value.type "object"], ns := 64, qualname := Str.ofString "FreezableDefaultDict", slotNames := [Str.ofString ""] }, slots := #[some (Value.ref 40), none, some (Value.str (Str.ofString "FreezableDefaultDict") 288), some (Value.str (Str.ofString "FreezableDefaultDict") 296), some (Value.builtin "dict.__new__"), some (Value.bool true)] }) ::
  (nat_lit 66, { cls := Value.type "getset_descriptor", data := Data.fields #[Value.str (Str.ofString "__dict__") 320, Value.ref 65, Value.builtin "function.__dict__", Value.builtin "function.__dict__#set"] }) ::
  (nat_lit 67, { cls := Value.type "getset_descriptor", data := Data.fields #[Value.str (Str.ofString "__weakref__") 322, Value.ref 65, Value.builtin "ExceptionGroup.__weakref__", Value.none] }) ::
  (nat_lit 141, { cls := Value.type "code", data := Data.fields #[Value.str (Str.ofString "fspath") 418, Value.str (Str.ofString "fspath") 419, Value.str (Str.ofString "/claim/cut.py") 420, Value.int 44 0, Value.int 1 0, Value.int 0 0, Value.int 0 0, Value.int 3 0, Value.ref 136, Value.bool true, Value.int 273 0, Value.ref 137, Value.none, Value.ref 138, Value.ref 139, Value.ref 140, Value.int 425 0, Value.int 44 0, Value.str (Str.ofString "/claim/cut.py") 426] }) ::
  (nat_lit 142, fnAt (stAt 12) (Str.ofString "fspath") [] (Value.str (Str.ofString "os") 416) 141 .none) ::
  (nat_lit 148, { cls := Value.type "code", data := Data.fields #[Value.str (Str.ofString "_check_arg_types") 430, Value.str (Str.ofString "_check_arg_types") 431, Value.str (Str.ofString "/claim/cut.py") 432, Value.int 61 0, Value.int 1 0, Value.int 0 0, Value.int 0 0, Value.int 7 0, Value.ref 143, Value.bool true, Value.int 273 0, Value.ref 144, Value.none, Value.ref 145, Value.ref 146, Value.ref 147, Value.int 438 0, Value.int 61 0, Value.str (Str.ofString "/claim/cut.py") 439] }) ::
  (nat_lit 149, fnAt (stAt 14) (Str.ofString "_check_arg_types") [] (Value.str (Str.ofString "cpy313.genericpath") 428) 148 .none) ::
  (nat_lit 155, { cls := Value.type "code", data := Data.fields #[Value.str (Str.ofString "_get_sep") 443, Value.str (Str.ofString "_get_sep") 444, Value.str (Str.ofString "/claim/cut.py") 445, Value.int 73 0, Value.int 1 0, Value.int 0 0, Value.int 0 0, Value.int 3 0, Value.ref 150, Value.bool true, Value.int 273 0, Value.ref 151, Value.none, Value.ref 152, Value.ref 153, Value.ref 154, Value.int 447 0, Value.int 73 0, Value.str (Str.ofString "/claim/cut.py") 448] }) ::
  (nat_lit 156, fnAt (stAt 16) (Str.ofString "_get_sep") [] (Value.str (Str.ofString "cpy313.posixpath") 441) 155 .none) ::
  (nat_lit 162, { cls := Value.type "code", data := Data.fields #[Value.str (Str.ofString "join") 450, Value.str (Str.ofString "join") 451, Value.str (Str.ofString "/claim/cut.py") 452, Value.int 78 0, Value.int 1 0, Value.int 0 0, Value.int 0 0, Value.int 7 0, Value.ref 157, Value.bool true, Value.int 273 0, Value.ref 158, Value.none, Value.ref 159, Value.ref 160, Value.ref 161, Value.int 458 0, Value.int 78 0, Value.str (Str.ofString "/claim/cut.py") 459] }) ::
  (nat_lit 163, fnAt (stAt 17) (Str.ofString "join") [] (Value.str (Str.ofString "cpy313.posixpath") 441) 162 .none) ::
  (nat_lit 169, { cls := Value.type "code", data := Data.fields #[Value.str (Str.ofString "split") 461, Value.str (Str.ofString "split") 462, Value.str (Str.ofString "/claim/cut.py") 463, Value.int 95 0, Value.int 1 0, Value.int 0 0, Value.int 0 0, Value.int 3 0, Value.ref 164, Value.bool true, Value.int 273 0, Value.ref 165, Value.none, Value.ref 166, Value.ref 167, Value.ref 168, Value.int 469 0, Value.int 95 0, Value.str (Str.ofString "/claim/cut.py") 470] }) ::
  (nat_lit 170, fnAt (stAt 18) (Str.ofString "split") [] (Value.str (Str.ofString "cpy313.posixpath") 441) 169 .none) ::
  (nat_lit 176, { cls := Value.type "code", data := Data.fields #[Value.str (Str.ofString "splitroot") 472, Value.str (Str.ofString "splitroot") 473, Value.str (Str.ofString "/claim/cut.py") 474, Value.int 103 0, Value.int 1 0, Value.int 0 0, Value.int 0 0, Value.int 3 0, Value.ref 171, Value.bool true, Value.int 273 0, Value.ref 172, Value.none, Value.ref 173, Value.ref 174, Value.ref 175, Value.int 478 0, Value.int 103 0, Value.str (Str.ofString "/claim/cut.py") 479] }) ::
  (nat_lit 177, fnAt (stAt 19) (Str.ofString "splitroot") [] (Value.str (Str.ofString "cpy313.posixpath") 441) 176 .none) ::
  (nat_lit 183, { cls := Value.type "code", data := Data.fields #[Value.str (Str.ofString "normpath") 481, Value.str (Str.ofString "normpath") 482, Value.str (Str.ofString "/claim/cut.py") 483, Value.int 117 0, Value.int 1 0, Value.int 0 0, Value.int 0 0, Value.int 3 0, Value.ref 178, Value.bool true, Value.int 273 0, Value.ref 179, Value.none, Value.ref 180, Value.ref 181, Value.ref 182, Value.int 493 0, Value.int 117 0, Value.str (Str.ofString "/claim/cut.py") 494] }) ::
  (nat_lit 184, fnAt (stAt 20) (Str.ofString "normpath") [] (Value.str (Str.ofString "cpy313.posixpath") 441) 183 .none) ::
  (nat_lit 190, { cls := Value.type "code", data := Data.fields #[Value.str (Str.ofString "_law_folder") 498, Value.str (Str.ofString "_law_folder") 499, Value.str (Str.ofString "/claim/cut.py") 500, Value.int 143 0, Value.int 0 0, Value.int 0 0, Value.int 0 0, Value.int 3 0, Value.ref 185, Value.bool true, Value.int 273 0, Value.ref 186, Value.none, Value.ref 187, Value.ref 188, Value.ref 189, Value.int 501 0, Value.int 143 0, Value.str (Str.ofString "/claim/cut.py") 502] }) ::
  (nat_lit 191, fnAt (stAt 22) (Str.ofString "_law_folder") [] (Value.str (Str.ofString "law_il0142_02") 496) 190 .none) ::
  (nat_lit 197, { cls := Value.type "code", data := Data.fields #[Value.str (Str.ofString "_law_steps") 504, Value.str (Str.ofString "_law_steps") 505, Value.str (Str.ofString "/claim/cut.py") 506, Value.int 145 0, Value.int 1 0, Value.int 0 0, Value.int 0 0, Value.int 3 0, Value.ref 192, Value.bool true, Value.int 273 0, Value.ref 193, Value.none, Value.ref 194, Value.ref 195, Value.ref 196, Value.int 511 0, Value.int 145 0, Value.str (Str.ofString "/claim/cut.py") 512] }) ::
  (nat_lit 198, fnAt (stAt 23) (Str.ofString "_law_steps") [] (Value.str (Str.ofString "law_il0142_02") 496) 197 .none) ::
  (nat_lit 204, { cls := Value.type "code", data := Data.fields #[Value.str (Str.ofString "_law_parts") 514, Value.str (Str.ofString "_law_parts") 515, Value.str (Str.ofString "/claim/cut.py") 516, Value.int 152 0, Value.int 1 0, Value.int 0 0, Value.int 0 0, Value.int 3 0, Value.ref 199, Value.bool true, Value.int 273 0, Value.ref 200, Value.none, Value.ref 201, Value.ref 202, Value.ref 203, Value.int 521 0, Value.int 152 0, Value.str (Str.ofString "/claim/cut.py") 522] }) ::
  (nat_lit 205, fnAt (stAt 24) (Str.ofString "_law_parts") [] (Value.str (Str.ofString "law_il0142_02") 496) 204 .none) ::
  (nat_lit 211, { cls := Value.type "code", data := Data.fields #[Value.str (Str.ofString "_law_found") 524, Value.str (Str.ofString "_law_found") 525, Value.str (Str.ofString "/claim/cut.py") 526, Value.int 159 0, Value.int 2 0, Value.int 0 0, Value.int 0 0, Value.int 3 0, Value.ref 206, Value.bool true, Value.int 273 0, Value.ref 207, Value.none, Value.ref 208, Value.ref 209, Value.ref 210, Value.int 531 0, Value.int 159 0, Value.str (Str.ofString "/claim/cut.py") 532] }) ::
  (nat_lit 212, fnAt (stAt 25) (Str.ofString "_law_found") [] (Value.str (Str.ofString "law_il0142_02") 496) 211 .none) ::
  (nat_lit 218, { cls := Value.type "code", data := Data.fields #[Value.str (Str.ofString "_law_written") 534, Value.str (Str.ofString "_law_written") 535, Value.str (Str.ofString "/claim/cut.py") 536, Value.int 166 0, Value.int 2 0, Value.int 0 0, Value.int 0 0, Value.int 3 0, Value.ref 213, Value.bool true, Value.int 273 0, Value.ref 214, Value.none, Value.ref 215, Value.ref 216, Value.ref 217, Value.int 542 0, Value.int 166 0, Value.str (Str.ofString "/claim/cut.py") 543] }) ::
  (nat_lit 219, fnAt (stAt 26) (Str.ofString "_law_written") [] (Value.str (Str.ofString "law_il0142_02") 496) 218 .none) ::
  (nat_lit 225, { cls := Value.type "code", data := Data.fields #[Value.str (Str.ofString "_law_deed") 545, Value.str (Str.ofString "_law_deed") 546, Value.str (Str.ofString "/claim/cut.py") 547, Value.int 172 0, Value.int 3 0, Value.int 0 0, Value.int 0 0, Value.int 3 0, Value.ref 220, Value.bool true, Value.int 273 0, Value.ref 221, Value.none, Value.ref 222, Value.ref 223, Value.ref 224, Value.int 556 0, Value.int 172 0, Value.str (Str.ofString "/claim/cut.py") 557] }) ::
  (nat_lit 226, fnAt (stAt 27) (Str.ofString "_law_deed") [] (Value.str (Str.ofString "law_il0142_02") 496) 225 .none) ::
  (nat_lit 232, { cls := Value.type "code", data := Data.fields #[Value.str (Str.ofString "_law_names") 559, Value.str (Str.ofString "_law_names") 560, Value.str (Str.ofString "/claim/cut.py") 561, Value.int 190 0, Value.int 2 0, Value.int 0 0, Value.int 0 0, Value.int 3 0, Value.ref 227, Value.bool true, Value.int 273 0, Value.ref 228, Value.none, Value.ref 229, Value.ref 230, Value.ref 231, Value.int 566 0, Value.int 190 0, Value.str (Str.ofString "/claim/cut.py") 567] }) ::
  (nat_lit 233, fnAt (stAt 28) (Str.ofString "_law_names") [] (Value.str (Str.ofString "law_il0142_02") 496) 232 .none) ::
  (nat_lit 237, { cls := Value.type "code", data := Data.fields #[Value.str (Str.ofString "_law_in") 569, Value.str (Str.ofString "_law_in") 570, Value.str (Str.ofString "/claim/cut.py") 571, Value.int 200 0, Value.int 2 0, Value.int 0 0, Value.int 0 0, Value.int 3 0, Value.ref 234, Value.bool true, Value.int 273 0, Value.ref 235, Value.none, Value.none, Value.none, Value.ref 236, Value.int 572 0, Value.int 200 0, Value.str (Str.ofString "/claim/cut.py") 573] }) ::
  (nat_lit 238, fnAt (stAt 29) (Str.ofString "_law_in") [] (Value.str (Str.ofString "law_il0142_02") 496) 237 .none) ::
  (nat_lit 244, { cls := Value.type "code", data := Data.fields #[Value.str (Str.ofString "_law_below") 575, Value.str (Str.ofString "_law_below") 576, Value.str (Str.ofString "/claim/cut.py") 577, Value.int 202 0, Value.int 2 0, Value.int 0 0, Value.int 0 0, Value.int 3 0, Value.ref 239, Value.bool true, Value.int 273 0, Value.ref 240, Value.none, Value.ref 241, Value.ref 242, Value.ref 243, Value.int 582 0, Value.int 202 0, Value.str (Str.ofString "/claim/cut.py") 583] }) ::
  (nat_lit 245, fnAt (stAt 30) (Str.ofString "_law_below") [] (Value.str (Str.ofString "law_il0142_02") 496) 244 .none) ::
  (nat_lit 249, { cls := Value.type "code", data := Data.fields #[Value.str (Str.ofString "_law_due") 585, Value.str (Str.ofString "_law_due") 586, Value.str (Str.ofString "/claim/cut.py") 587, Value.int 208 0, Value.int 4 0, Value.int 0 0, Value.int 0 0, Value.int 3 0, Value.ref 246, Value.bool true, Value.int 273 0, Value.ref 247, Value.none, Value.none, Value.none, Value.ref 248, Value.int 588 0, Value.int 208 0, Value.str (Str.ofString "/claim/cut.py") 589] }) ::
  (nat_lit 250, fnAt (stAt 31) (Str.ofString "_law_due") [] (Value.str (Str.ofString "law_il0142_02") 496) 249 .none) ::
  (nat_lit 254, { cls := Value.type "code", data := Data.fields #[Value.str (Str.ofString "law") 591, Value.str (Str.ofString "law") 592, Value.str (Str.ofString "/claim/cut.py") 593, Value.int 232 0, Value.int 1 0, Value.int 0 0, Value.int 0 0, Value.int 3 0, Value.ref 251, Value.bool true, Value.int 273 0, Value.ref 252, Value.none, Value.none, Value.none, Value.ref 253, Value.int 594 0, Value.int 232 0, Value.str (Str.ofString "/claim/cut.py") 595] }) ::
  (nat_lit 255, fnAt (stAt 32) (Str.ofString "law") [] (Value.str (Str.ofString "law_il0142_02") 496) 254 .none) :: []
noncomputable def isAsg : Stmt → Bool
  | .Assign .. => true
  | _ => false
/-- the text without its assignments -/
noncomputable def view2 : Program := { PySem.Challenge.pw_il0142_02 with main := { PySem.Challenge.pw_il0142_02.main with body := PySem.Challenge.pw_il0142_02.main.body.filter fun st => !isAsg st } }
noncomputable abbrev as2 : List Addr := 2 :: 3 :: 40 :: 43 :: 48 :: 54 :: 55 :: 61 :: 62 :: 63 :: 64 :: 65 :: 66 :: 67 :: 141 :: 142 :: 148 :: 149 :: 155 :: 156 :: 162 :: 163 :: 169 :: 170 :: 176 :: 177 :: 183 :: 184 :: 190 :: 191 :: 197 :: 198 :: 204 :: 205 :: 211 :: 212 :: 218 :: 219 :: 225 :: 226 :: 232 :: 233 :: 237 :: 238 :: 244 :: 245 :: 249 :: 250 :: 254 :: 255 :: []
noncomputable abbrev r2 : RowW := PySem.Challenge.rw_il0142_02.row.toRowW
end
section
set_option maxHeartbeats 0
theorem ws : PySem.Challenge.rw_il0142_02.wellSaid = true := by decide +kernel
end
section
set_option maxHeartbeats 0
theorem left2 : LeftO r2.prog view2 [] (fun s => xlAt view2 [] s && recOk (RowW.records r2) s) (Hook.obs (kmHook K2 as2 (fun _ => rfl) [57])) (Hook.val (kmHook K2 as2 (fun _ => rfl) [57])) 3176 := by
  intro w
  kernel_rfl!
end
local macro_rules | `(tactic| walk_at "my keep") => `(tactic| ((rename Keeps _ _ => kp'); (have F' := Fr.keeps (by assumption) kp'); (have N' := News.keeps (by assumption) kp'); clear kp'; (try k_sweep)))
local macro_rules | `(tactic| walk_at "my enter") => `(tactic| (
  (case X => assumption); (case T => assumption); (case ho => k_is); (case hcd => k_is); (case hroom => first | exact roomE (by assumption) | (dsimp only [Ar, recursionLimit]; omega));
  (case hbind => exact BindsTo.of_eq rfl); (case hloc => exact locs rfl); (case hco => exact rfl); (case hgen => exact rfl); (case hk => exact rfl); (case hcell => decide);
  intro L' h' F' N'; (try dsimp only); k_fold))
local macro_rules | `(tactic| walk_at "my room") => `(tactic| ((try dsimp only [Ar, Around.deeper, Around.in1]); first | with_reducible exact room1 (by assumption) (by decide) | with_reducible exact room0 (by assumption) (by decide) | omega))
local macro_rules | `(tactic| walk_at "my top") => `(tactic| first | exact TopRead.keeps (by assumption) (Fr.keep (by assumption)) | assumption)
local macro_rules | `(tactic| walk_at "my pre") => `(tactic| (
  (case X => k_in); (case T => walk_at "my top"); (case d => walk_at "my room"); (case u => walk_at "my room")))
local macro_rules | `(tactic| walk_at "truthy str") => `(tactic| (
  (with_reducible show wpAny _ _ (PySem.truthy (Value.str _ _)) _ _ _); (refine P.truthy_str (by first | omega | (rw [PySem.Str.length_append]; omega)) ?_)))
local macro_rules | `(tactic| walk_at "call builtin:issubclass") => `(tactic| ((refine' issub_str ?h1 ?_); (case h1 => exact News.get (by assumption) (by k_mem)); intro tk'))
local macro_rules | `(tactic| walk_at "my size") => `(tactic| first | (rw [sizeLine_eq]; (try simp only [List.size_toArray, List.length_append, List.length_cons, List.length_nil] at *); omega) | size_fits)
local macro_rules | `(tactic| walk_at "call builtin:str.split") => `(tactic| (
  (with_reducible show wpAny _ _ (PySem.call (Value.builtin "str.split") [Value.str _ _, Value.str _ _]) _ _ _);
  (refine KSpl.split1 (by k_asm) (by k_asm) (by decide) ?_ (by walk_at "my size")); (intro D' l' h' k' e' a' F' N' l1); (try k_lt l1)))
local macro_rules | `(tactic| walk_at "truthy ref") => `(tactic| (
  (with_reducible show wpAny _ _ (PySem.truthy (Value.ref _)) _ _ _);
  k_dflt (first
  | (refine ltruthy (vs := []) (b := false) (by assumption) (by k_mem) rfl (Nat.zero_le _) ?_; intro _)
  | (refine ltruthy (vs := _ ++ [_]) (b := true) (by assumption) (by k_mem) (by simp) (by (simp only [List.length_append, List.length_cons, List.length_nil] at *); omega) ?_; intro _))))
local macro_rules | `(tactic| walk_at "getItem ref int") => `(tactic| (
  (with_reducible show wpAny _ _ (PySem.getItem (Value.ref _) (Value.int (-1) _)) _ _ _);
  (refine lgetneg (by assumption) (by k_mem) ?_)))
local macro_rules | `(tactic| walk_at "call builtin:list.pop") => `(tactic| (
  (with_reducible show wpAny _ _ (PySem.call (Value.builtin "list.pop") [Value.ref _]) _ _ _);
  (refine' lpop ?F ?N ?U ?z ?_); (case F => assumption); (case N => assumption); (case U => k_upd); (case z => walk_at "my size"); intro h' F' N'; (try k_sweep)))
local macro_rules | `(tactic| walk_at "call builtin:list.append") => `(tactic| (
  (with_reducible show wpAny _ _ (PySem.call (Value.builtin "list.append") [Value.ref _, _]) _ _ _);
  (refine' lappend ?F ?N ?U ?z ?_); (case F => assumption); (case N => assumption); (case U => k_upd); (case z => walk_at "my size"); intro h' F' N'; (try k_sweep)))
local macro_rules | `(tactic| walk_at "call builtin:str.join") => `(tactic| (
  (with_reducible show wpAny _ _ (PySem.call (Value.builtin "str.join") [Value.str _ _, Value.ref _]) _ _ _);
  (refine ljoin (by assumption) (by k_mem) (by assumption) (by first | assumption | omega) ?_); intro _ _))
local macro_rules | `(tactic| walk_at "subscriptTail Name UnaryOp ref int") => `(tactic| (
  (with_reducible show wpAny _ _ (subscriptTail _ _ (Value.ref _) (Value.int _ _)) _ _ _);
  (k_dflt (refine item_strs_negR (by is_list) (by assumption) (by first | decide | omega) (by first | idx_side | (simp; omega)) (by first | decide | omega) ?_)); intro _))
local macro_rules | `(tactic| k_ne) => `(tactic| first
  | (refine neN ?_; (try dsimp only); first | assumption | (refine Ne.symm ?_; assumption) | omega (config := { splitDisjunctions := false }))
  | (refine ne_cls (by assumption) (by k_mem) (by k_mem) ?_; (try dsimp only); simp; done)
  | (refine neN ?_; (try dsimp only); (repeat (rename (_ ∧ _) => hkn'; obtain ⟨_, _⟩ := hkn')); first | assumption | (refine Ne.symm ?_; assumption) | omega (config := { splitDisjunctions := false }))
  | (refine neN ?_; (try dsimp only); omega))
section

theorem fspath_ct : ∀ {w : World} {dp un : Nat} {fr : Option (List Env)} {gd : Option (List Code)} {s : Shared} {Q E : Value → Shared → Prop} {x : Str} {t : Tok}
   {p loose mg mb} 
   (X : (K2 w.params).In s.heap) (T : TopRead p loose mg mb s.heap) (hdp : dp + 5 < 1000) (hu : un + 40 < 9900)
   (hQ : ∀ h' tk, Keeps s.heap h' → Q (.str x t) { s with heap := h', toks := tk })
   , wpAny (model PySem.Challenge.rw_il0142_02.row.prog w) (Ar dp un fr gd) (call (.ref 142) [.str x t]) Q E s := by
  k_fill
  intro w dp un fr gd s Q E x t p loose mg mb X T hdp hu hQ
  refine' enter [(Str.ofString "path", .str x t)] ?X ?T ?ho ?hcd ?hroom ?hbind ?hloc ?_ ?hco ?hgen ?hk ?hcell
  walk_at "my enter"
  k_steps
  all_goals (exact hQ _ _ (Fr.keep (by assumption)))

theorem get_sep_ct : ∀ {w : World} {dp un : Nat} {fr : Option (List Env)} {gd : Option (List Code)} {s : Shared} {Q E : Value → Shared → Prop} {x : Str} {t : Tok}
   {p loose mg mb} 
   (X : (K2 w.params).In s.heap) (T : TopRead p loose mg mb s.heap) (hdp : dp + 5 < 1000) (hu : un + 40 < 9900)
   (hQ : ∀ t h' tk, Keeps s.heap h' → Q (.str (Str.ofString "/") t) { s with heap := h', toks := tk })
   , wpAny (model PySem.Challenge.rw_il0142_02.row.prog w) (Ar dp un fr gd) (call (.ref 156) [.str x t]) Q E s := by
  k_fill
  intro w dp un fr gd s Q E x t p loose mg mb X T hdp hu hQ
  refine' enter [(Str.ofString "path", .str x t)] ?X ?T ?ho ?hcd ?hroom ?hbind ?hloc ?_ ?hco ?hgen ?hk ?hcell
  walk_at "my enter"
  k_steps
  all_goals (exact hQ _ _ _ (Fr.keep (by assumption)))
end
section
local macro_rules | `(tactic| walk_at "call ref") => `(tactic| (
  (with_reducible show wpAny _ _ (PySem.call (Value.ref 142) [Value.str _ _]) _ _ _);
  (k_dflt (refine' fspath_ct ?X ?T ?d ?u ?_)); walk_at "my pre";
  intro h' tk' kp'; walk_at "my keep"))
local macro_rules | `(tactic| walk_at "call ref") => `(tactic| (
  (with_reducible show wpAny _ _ (PySem.call (Value.ref 156) [Value.str _ _]) _ _ _);
  (k_dflt (refine' get_sep_ct ?X ?T ?d ?u ?_)); walk_at "my pre";
  intro t' h' tk' kp'; walk_at "my keep"))
theorem split_ct : ∀ {w : World} {dp un : Nat} {fr : Option (List Env)} {gd : Option (List Code)} {s : Shared} {Q E : Value → Shared → Prop} {x : Str} {t : Tok}
   {p loose mg mb} 
   (X : (K2 w.params).In s.heap) (T : TopRead p loose mg mb s.heap) (hdp : dp + 8 < 1000) (hu : un + 60 < 9900)
   (hx : x.length ≤ 1000000)
   (hQ : ∀ a t1 t2 h' tk, Keeps s.heap h' → s.heap.get? a = none → h'.get? a = some (tupOf [.str (splitS x).1 t1, .str (splitS x).2 t2]) → Q (.ref a) { s with heap := h', toks := tk })
   , wpAny (model PySem.Challenge.rw_il0142_02.row.prog w) (Ar dp un fr gd) (call (.ref 170) [.str x t]) Q E s := by
  k_fill
  intro w dp un fr gd s Q E x t p loose mg mb X T hdp hu hx hQ
  refine' enter [(Str.ofString "p", .str x t)] ?X ?T ?ho ?hcd ?hroom ?hbind ?hloc ?_ ?hco ?hgen ?hk ?hcell
  walk_at "my enter"
  k_steps
  · have e : splitS x = (Txt.rstripChars (Txt.slice x none (some (Txt.rfind x (Str.ofString "/") + 1))) (Str.ofString "/"), Txt.slice x (some (Txt.rfind x (Str.ofString "/") + 1)) none) := by
      unfold splitS; dsimp only; rw [if_neg (by assumption), if_pos (by assumption)]
    rw [e] at hQ
    exact hQ _ _ _ _ _ (Fr.keep (by assumption)) (News.fresh (by assumption) (.head _)) (News.get (by assumption) (.head _))
  · have e : splitS x = (Txt.slice x none (some (Txt.rfind x (Str.ofString "/") + 1)), Txt.slice x (some (Txt.rfind x (Str.ofString "/") + 1)) none) := by
      unfold splitS; dsimp only; rw [if_neg (by assumption), if_neg (by rw [Bool.not_eq_true]; assumption)]
    rw [e] at hQ
    exact hQ _ _ _ _ _ (Fr.keep (by assumption)) (News.fresh (by assumption) (.head _)) (News.get (by assumption) (.head _))
  · have e : splitS x = (Txt.slice x none (some (Txt.rfind x (Str.ofString "/") + 1)), Txt.slice x (some (Txt.rfind x (Str.ofString "/") + 1)) none) := by
      unfold splitS; dsimp only; rw [if_pos (by assumption)]
    rw [e] at hQ
    exact hQ _ _ _ _ _ (Fr.keep (by assumption)) (News.fresh (by assumption) (.head _)) (News.get (by assumption) (.head _))
theorem splitroot_ct : ∀ {w : World} {dp un : Nat} {fr : Option (List Env)} {gd : Option (List Code)} {s : Shared} {Q E : Value → Shared → Prop} {x : Str} {t : Tok}
   {p loose mg mb} 
   (X : (K2 w.params).In s.heap) (T : TopRead p loose mg mb s.heap) (hdp : dp + 8 < 1000) (hu : un + 60 < 9900)
   (hx : x.length ≤ 1000000)
   (hQ : ∀ a t0 t1 t2 h' tk, Keeps s.heap h' → s.heap.get? a = none → h'.get? a = some (tupOf [.str (Str.ofString "") t0, .str (rootS x).1 t1, .str (rootS x).2 t2]) → Q (.ref a) { s with heap := h', toks := tk })
   , wpAny (model PySem.Challenge.rw_il0142_02.row.prog w) (Ar dp un fr gd) (call (.ref 177) [.str x t]) Q E s := by
  k_fill
  intro w dp un fr gd s Q E x t p loose mg mb X T hdp hu hx hQ
  refine' enter [(Str.ofString "p", .str x t)] ?X ?T ?ho ?hcd ?hroom ?hbind ?hloc ?_ ?hco ?hgen ?hk ?hcell
  walk_at "my enter"
  k_steps
  all_goals (
    have e : rootS x = rootS x := rfl
    conv at e => rhs; unfold rootS
    first
      | rw [if_pos (by assumption)] at e
      | rw [if_neg (by simp only [Bool.not_eq_true]; assumption), if_pos (.inl (by assumption))] at e
      | rw [if_neg (by simp only [Bool.not_eq_true]; assumption), if_pos (.inr (by assumption))] at e
      | rw [if_neg (by simp only [Bool.not_eq_true]; assumption), if_neg (by simp only [Bool.not_eq_true, not_or]; exact ⟨by assumption, by assumption⟩)] at e
    rw [e] at hQ
    exact hQ _ _ _ _ _ _ (Fr.keep (by assumption)) (News.fresh (by assumption) (.head _)) (News.get (by assumption) (.head _)))
end
local macro_rules | `(tactic| walk_at "my add1") => `(tactic| ((rename Keeps _ _ => kp'); (rename Heap.get? _ _ = none => fr'); (rename Heap.get? _ _ = some _ => ob'); (rename StrsAre _ _ => hu'); (have F' := Fr.keeps (by assumption) kp'); (have ne' := news_ne fr' (by assumption)); (try simp only [AllNe, and_true] at ne'); (have N' := news_add kp' fr' ob' (by assumption) (by assumption)); (have hl' := strsAre_len hu'); (try simp only [List.length_map] at hl'); clear kp' ob'; (try k_sweep)))
local macro_rules | `(tactic| walk_at "my add3") => `(tactic| ((rename Keeps _ _ => kp'); (rename Heap.get? _ _ = none => fr'); (rename Heap.get? _ _ = some _ => ob'); (have F' := Fr.keeps (by assumption) kp'); (have ne' := news_ne fr' (by assumption)); (try simp only [AllNe, and_true] at ne'); (have N' := news_add kp' fr' ob' (by assumption) (by assumption)); clear kp' ob'; (try k_sweep)))
local macro_rules | `(tactic| walk_at "my add4") => `(tactic| ((rename Keeps _ _ => kp'); (rename Heap.get? _ _ = none => fr'); (rename Heap.get? _ _ = some _ => ob'); (have F' := Fr.keeps (by assumption) kp'); (have N' := news_add kp' fr' ob' (by assumption) (by assumption)); clear kp'; (try k_sweep)))
section
local macro_rules | `(tactic| walk_at "call ref") => `(tactic| (
  (with_reducible show wpAny _ _ (PySem.call (Value.ref 142) [Value.str _ _]) _ _ _);
  (k_dflt (refine' fspath_ct ?X ?T ?d ?u ?_)); walk_at "my pre";
  intro h' tk' kp'; walk_at "my keep"))
local macro_rules | `(tactic| walk_at "call ref") => `(tactic| (
  (with_reducible show wpAny _ _ (PySem.call (Value.ref 156) [Value.str _ _]) _ _ _);
  (k_dflt (refine' get_sep_ct ?X ?T ?d ?u ?_)); walk_at "my pre";
  intro t' h' tk' kp'; walk_at "my keep"))
local macro_rules | `(tactic| walk_at "call ref") => `(tactic| (
  (with_reducible show wpAny _ _ (PySem.call (Value.ref 177) [Value.str _ _]) _ _ _);
  (k_dflt (refine' splitroot_ct ?X ?T ?d ?u ?x ?_)); (case x => (try rw [Str.length_ofString] at *); omega); walk_at "my pre";
  intro a' t0' t1' t2' h' tk' kp' fr' ob'; walk_at "my add4"))
theorem normpath_ct : ∀ {w : World} {dp un : Nat} {fr : Option (List Env)} {gd : Option (List Code)} {s : Shared} {Q E : Value → Shared → Prop} {x : Str} {t : Tok}
   {p loose mg mb} 
   (X : (K2 w.params).In s.heap) (T : TopRead p loose mg mb s.heap) (hdp : dp + 12 < 1000) (hu : un + 90 < 9900)
   (hx : x.length ≤ 1000) (hx1 : x.length ≠ 0) (hr : (rootS x).1.length ≠ 0)
   (hQ : ∀ t h' tk, Keeps s.heap h' → Q (.str (normS x) t) { s with heap := h', toks := tk })
   , wpAny (model PySem.Challenge.rw_il0142_02.row.prog w) (Ar dp un fr gd) (call (.ref 184) [.str x t]) Q E s := by
  k_fill
  intro w dp un fr gd s Q E x t p loose mg mb X T hdp hu hx hx1 hr hQ
  have hrl := rootS_len x
  have hsc := split_count (rootS x).2
  refine' enter [(Str.ofString "path", .str x t)] ?X ?T ?ho ?hcd ?hroom ?hbind ?hloc ?_ ?hco ?hgen ?hk ?hcell
  walk_at "my enter"
  k_steps
  all_goals (try (exfalso; omega))
  rename_i D l h1 k1 he ha l1 h2 NC h3 l2 h4 lF N
  rw [he] at ha
  refine for_list (σ := (List Value × Nat) × Tok × Tok × Tok × Tok) (fun c => [(D, W.listOf (strValues l).toArray 0), (NC, W.listOf c.1.1.toArray c.1.2)])
    (fun c => [(Str.ofString "new_comps", .ref NC), (Str.ofString "sep", .str (Str.ofString "/") c.2.1), (Str.ofString "dot", .str (Str.ofString ".") c.2.2.1), (Str.ofString "dotdot", .str (Str.ofString "..") c.2.2.2.1), (Str.ofString "initial_slashes", .str (rootS x).1 c.2.2.2.2)])
    (fun i c => StrsAre c.1.1 (((Txt.split (rootS x).2 (Str.ofString "/")).take i).foldl normStep []))
    (([], 0), _, _, _, _) rfl (.inl fun _ => .head _) (by assumption) (by assumption) ⟨.tail _ (.head _), .head _, trivial⟩ ⟨by simp, by simp, trivial⟩ ⟨rfl, rfl, rfl, rfl, rfl, trivial⟩ .nil ?_ ?_
  · intro i v c h tk I it u hv hP F' N' hcl hne
    obtain ⟨y, ty, rfl, hy⟩ := strsAre_get ha hv
    obtain ⟨⟨cs, nn⟩, t1, t2, t3, t4⟩ := c
    have hy1 : y.length ≤ (rootS x).2.length := part_short (List.mem_of_getElem? hy)
    have hy2 : i < (Txt.split (rootS x).2 (Str.ofString "/")).length := (List.getElem?_eq_some_iff.mp hy).1
    have hc1 := foldNorm_len ((Txt.split (rootS x).2 (Str.ofString "/")).take i) []
    have hc2 := strsAre_len hP
    have hc3 : cs.length ≤ 1001 := by
      rw [List.length_take] at hc1
      dsimp only at hc2
      simp only [List.length_nil] at hc1; omega
    clear hc1 hc2
    dsimp only [chain] at F' N' hP
    simp only [AllNe] at hne
    have hst := fun b => (take_foldl normStep _ b hy)
    rcases lsnoc cs with rfl | ⟨cs', v', rfl⟩
    · have hP0 : ((Txt.split (rootS x).2 (Str.ofString "/")).take i).foldl normStep [] = [] := by cases e : ((Txt.split (rootS x).2 (Str.ofString "/")).take i).foldl normStep [] with
        | nil => rfl
        | cons a r => rw [e] at hP; cases hP
      k_steps
      all_goals (
        refine TEnd.intro ((_, _), _, _, _, _) (by assumption) (by assumption) ⟨by k_mem, by k_mem, trivial⟩ (by k_mem) ⟨by simp, by simp, trivial⟩ ⟨rfl, rfl, rfl, rfl, rfl, trivial⟩ ?_
        dsimp only
        rw [hst, hP0]
        first
          | (exfalso; omega)
          | (rw [normStep_skip (.inl (by assumption))]; exact .nil)
          | (rw [normStep_skip (.inr (by assumption))]; exact .nil)
          | (rw [normStep_in (by assumption) (by assumption) (by assumption)]; exact .cons _ _ .nil)
          | (rw [normStep_nil (by assumption) (by assumption) (by assumption)]; exact .nil))
    · obtain ⟨zs, z, tz, rfl, hz, hP1⟩ := strsAre_unsnoc hP
      rw [hz] at hP
      k_steps
      all_goals (
        have hgd : (zs ++ [z]).getD (-1 + ↑(zs ++ [z]).length : Int).toNat Str.empty = z := by
          have e : (-1 + ↑(zs ++ [z]).length : Int).toNat = zs.length := by simp; omega
          rw [e]; simp
        refine TEnd.intro ((_, _), _, _, _, _) (by assumption) (by assumption) ⟨by k_mem, by k_mem, trivial⟩ (by k_mem) ⟨by simp, by simp, trivial⟩ ⟨rfl, rfl, rfl, rfl, rfl, trivial⟩ ?_
        dsimp only
        rw [hst, hz]
        first
          | (exfalso; omega)
          | (rw [normStep_skip (.inl (by assumption))]; exact strsAre_snoc hP1 _ _)
          | (rw [normStep_skip (.inr (by assumption))]; exact strsAre_snoc hP1 _ _)
          | (rw [normStep_in (by assumption) (by assumption) (by assumption)]; exact strsAre_snoc (strsAre_snoc hP1 _ _) _ _)
          | (rw [normStep_in2 (by assumption) (by assumption) (by assumption) (by first | assumption | (rw [← hgd]; assumption))]; exact strsAre_snoc (strsAre_snoc hP1 _ _) _ _)
          | (rw [normStep_up (by assumption) (by assumption) (by assumption) (by first | assumption | (rw [← hgd]; assumption))]; exact hP1))
  · intro c h tk u hP F' N'
    obtain ⟨⟨cs, nn⟩, t1, t2, t3, t4⟩ := c
    dsimp only [chain] at F' N' hP
    rw [strsAre_len ha, List.take_length] at hP
    have hz := norm_sum hx
    have hj := StrLaws.join_length_le (Str.ofString "/") ((Txt.split (rootS x).2 (Str.ofString "/")).foldl normStep [])
    have hf : (Str.join (Str.ofString "/") ((Txt.split (rootS x).2 (Str.ofString "/")).foldl normStep [])).length ≤ 1002001 := by omega
    have hz2 : (((Txt.split (rootS x).2 (Str.ofString "/")).foldl normStep []).map (·.length)).sum + ((Txt.split (rootS x).2 (Str.ofString "/")).foldl normStep []).length * (Str.ofString "/").length ≤ 16777216 := by omega
    clear hj hz
    k_steps
    all_goals (try (exfalso; rw [PySem.Str.length_append] at *; omega))
    all_goals exact hQ _ _ _ (Fr.keep (by assumption))
end
section
set_option maxHeartbeats 400000
section
variable {prog : Program} {w : World} {A : Around} {h₀ : Heap} {L : Addr} {m : Str → Option Value} {env : Env} {ct elt : Expr} {x : Str} {scope : Scope} {cl : List (Str × Addr)} {s : Shared} {S : List (Addr × Obj) → Prop} {P : Nat → Value → Prop} {Fin : List Value → List (Addr × Obj) → Prop} {news : List (Addr × Obj)}
theorem compU_inv {n : Nat} (J : Nat → List Value → List (Addr × Obj) → Prop) (h0 : J 0 [] news) (fin : ∀ ys nw, J n ys nw → Fin ys nw)
    (turn : ∀ i v I oI C oC D m₂ ys nw h tk (E' : Value → Shared → Prop), i < n → P i v → J i ys nw → LCg.NsObj oC m₂ → m₂ x = some v → Fr h₀ L h m → News h₀ L h ((I, oI) :: (C, oC) :: (D, LCg.lst ys) :: nw) → LCg.Off3 I C D nw → ((@Ne Nat I C) ∧ (@Ne Nat I D) ∧ (@Ne Nat C D)) →
      wpAny (model prog w) A (eval elt (compEnvC scope cl C env)) (LCg.CompEnd h₀ L m { s with heap := h, toks := tk } I oI C oC D (LCg.lst ys) S (fun y nw' => Stop (J (i + 1) (ys ++ [y]) nw'))) E' { s with heap := h, toks := tk }) :
    LCg.CompRest prog w A h₀ L m env elt x scope cl s S P Fin n 0 [] news := by
  have key : ∀ (j i : Nat) (ys : List Value) nw, i + j = n → J i ys nw → LCg.CompRest prog w A h₀ L m env elt x scope cl s S P Fin j i ys nw := by
    intro j
    induction j with
    | zero => intro i ys nw hi hy; rw [show i = n by omega] at hy; exact fin ys nw hy
    | succ j ih =>
      intro i ys nw hi hy
      refine LCg.CompRest.succ ?_
      intro v I oI C oC D m₂ h tk E' hv hC hx F N off ne
      refine wpAny_mono (turn i v I oI C oC D m₂ ys nw h tk E' (by omega) hv hy hC hx F N off ne) (fun y s₃ hr => ?_) fun _ _ e => e
      obtain ⟨h', tk', nw', e, F', N', off', hS, hr'⟩ := hr
      exact ⟨h', tk', nw', e, F', N', off', hS, ih (i + 1) _ _ (by omega) hr'⟩
  exact key n 0 [] news (by omega) h0
theorem compT_inv {n : Nat} (J : Nat → List Value → List (Addr × Obj) → Prop) (h0 : J 0 [] news) (fin : ∀ ys nw, J n ys nw → Fin ys nw)
    (turn : ∀ i v I oI C oC D m₂ ys nw h tk (E' : Value → Shared → Prop), i < n → P i v → J i ys nw → LCg.NsObj oC m₂ → m₂ x = some v → Fr h₀ L h m → News h₀ L h ((I, oI) :: (C, oC) :: (D, LCg.lst ys) :: nw) → LCg.Off3 I C D nw → ((@Ne Nat I C) ∧ (@Ne Nat I D) ∧ (@Ne Nat C D)) →
      wpAny (model prog w) A (isTrue ct (compEnvC scope cl C env) (eval ct (compEnvC scope cl C env))) (fun ok s' => WhlIf ok
        (wpAny (model prog w) A (eval elt (compEnvC scope cl C env)) (LCg.CompEnd h₀ L m { s with heap := h, toks := tk } I oI C oC D (LCg.lst ys) S (fun y nw' => Stop (J (i + 1) (ys ++ [y]) nw'))) E' s')
        (LCg.CompEnd h₀ L m { s with heap := h, toks := tk } I oI C oC D (LCg.lst ys) S (fun _ nw' => Stop (J (i + 1) ys nw')) Value.none s')) E' { s with heap := h, toks := tk }) :
    LCt.CompRestT prog w A h₀ L m env ct elt x scope cl s S P Fin n 0 [] news := by
  have key : ∀ (j i : Nat) (ys : List Value) nw, i + j = n → J i ys nw → LCt.CompRestT prog w A h₀ L m env ct elt x scope cl s S P Fin j i ys nw := by
    intro j
    induction j with
    | zero => intro i ys nw hi hy; rw [show i = n by omega] at hy; exact fin ys nw hy
    | succ j ih =>
      intro i ys nw hi hy
      refine LCt.CompRestT.succ ?_
      intro v I oI C oC D m₂ h tk E' hv hC hx F N off ne
      refine wpAny_mono (turn i v I oI C oC D m₂ ys nw h tk E' (by omega) hv hy hC hx F N off ne) (fun b s₂ hq => ?_) fun _ _ e => e
      cases b with
      | true =>
        unfold WhlIf at hq
        simp only [if_true] at hq ⊢
        refine wpAny_mono hq (fun y s₃ hr => ?_) fun _ _ e => e
        obtain ⟨h', tk', nw', e, F', N', off', hS, hr'⟩ := hr
        exact ⟨h', tk', nw', e, F', N', off', hS, ih (i + 1) _ _ (by omega) hr'⟩
      | false =>
        unfold WhlIf at hq
        simp only [Bool.false_eq_true, if_false] at hq ⊢
        obtain ⟨h', tk', nw', e, F', N', off', hS, hr'⟩ := hq
        exact ⟨h', tk', nw', e, F', N', off', hS, ih (i + 1) _ _ (by omega) hr'⟩
  exact key n 0 [] news (by omega) h0
end
end
section
set_option maxHeartbeats 400000
noncomputable abbrev bmD : List Value := [.type "collections.defaultdict", .type "dict", .type "object"]
theorem mroD : mroOf (.type "collections.defaultdict") = pure bmD := by kernel_rfl
theorem lkD_init : typeLookup (.type "collections.defaultdict") "__init__" = pure (some (.builtin "collections.defaultdict.__init__")) := by rw [typeLookup_type, builtinLookup_eq_fast]; kernel_rfl
theorem splitN : splitId "dict.__new__" = some ("dict", "__new__") := by decide +kernel
theorem kindN : builtinKind "dict.__new__" = some .builtinFn := by decide +kernel
theorem entryN : entryFor table "dict.__new__" = some Builtin.«dict.__new__» := entryFor_of_tree (by kernel_rfl)
theorem entryI : entryFor table "collections.defaultdict.__init__" = some Builtin.«collections.defaultdict.__init__» := entryFor_of_tree (by kernel_rfl)
theorem entryDI : entryFor table "dict.__init__" = some Builtin.«dict.__init__» := entryFor_of_tree (by kernel_rfl)
theorem kindI : builtinKind "collections.defaultdict.__init__" = some .slot := by decide +kernel
theorem splitI : splitId "collections.defaultdict.__init__" = some ("collections.defaultdict", "__init__") := by decide +kernel
theorem quietN : ("dict.__new__".startsWith "lifetime.") = false := by decide +kernel
theorem lkF_call : typeLookup (.type "function") "__call__" = pure (some (.builtin "function.__call__")) := by rw [typeLookup_type, builtinLookup_eq_fast]; kernel_rfl
theorem argsI (a b : Value) : argsOk "collections.defaultdict.__init__" ⟨[a, b], []⟩ := by unfold argsOk; kernel_rfl
theorem slotI : Slot "collections.defaultdict" "__init__" "collections.defaultdict.__init__" :=
  .of (owner := "collections.defaultdict") (n := "__init__") (by rw [typeLookup_type, builtinLookup_eq_fast]; kernel_rfl) (by decide +kernel) (by decide +kernel) (by decide +kernel)
    (by first | exact .inl (by decide +kernel) | exact .inr (by decide +kernel)) (by rw [isSubtype_type]; kernel_rfl)

section
variable {prog : Program} {w : World} {A : Around} {E : Value → Shared → Prop} {h : Heap} {g : Array GenState} {d : Drawn} {t : Nat} {os : OsState}
variable {nm q : Str} {C N : Addr} {bs : List Value} {sn : List Str} {sub : List Value} {col : Option Bool} {dd : Option Addr} {k0 k1 k2 k3 k5 : Option Value}

theorem check_new {M : Model} {rest : List Value} {Q : Unit → Shared → Prop}
    (hC : h.get? C = some (excClassObj nm q C N bs bmD true sn sub false col dd k0 k1 k2 k3 k5 "dict.__new__")) (hq : Q () ⟨h, g, d, t, os⟩) :
    wpAny M A (checkBuiltinCall "dict.__new__" ⟨.ref C :: rest, []⟩) Q E ⟨h, g, d, t, os⟩ := by
  have hcont : (Value.ref C :: bmD).contains (.type "dict") = true := by rw [List.contains_cons, show bmD.contains (.type "dict") = true from by decide, Bool.or_true]
  simp only [checkBuiltinCall, kindN, splitN]
  repeat (first | refine wpAny_loadPart_at hC ?_ | (refine wpAny_isSubtype_exc hC ?_; rw [hcont]) | refine wpAny_staticBase_exc hC ?_ | refine wpAny_madeBy_exc hC ?_ | simp only [bne_self_eq_false, Bool.false_eq_true, if_false] | wp_step)
  exact hq

theorem code_new {R : Result → Shared → Prop} {rest : List Value}
    (hC : h.get? C = some (excClassObj nm q C N bs bmD true sn sub false col dd k0 k1 k2 k3 k5 "dict.__new__"))
    (hq : R (.ok (.ret (.ref (h.objs.size + 1)))) ⟨(h.push { cls := .type "dict", data := .dict #[] }).push { cls := .ref C, dict := some h.objs.size, data := .dict #[] }, g, d, t, os⟩) :
    codeAny (model prog w) A (.builtin "dict.__new__" ⟨.ref C :: rest, []⟩) R ⟨h, g, d, t, os⟩ := by
  have hcont : (Value.ref C :: bmD).contains (.type "dict") = true := by rw [List.contains_cons, show bmD.contains (.type "dict") = true from by decide, Bool.or_true]
  have hT : (⟨h, g, d, t, os⟩ : Shared).TypeIs (.ref C) "type" := ⟨_, hC, rfl⟩
  have f3 := tc_sub
  refine codeAny_builtin entryN ?_
  unfold Builtin.«dict.__new__»
  repeat (any_goals (first | assumption | (with_reducible refine wpAny_isSubtype_exc hC ?_; rw [hcont]) | with_reducible refine wpAny_mroOf_exc hC ?_ | with_reducible refine wpAny_loadPart_at hC ?_ | wp_step))
  show R _ _
  rw [Heap.size_push]
  exact hq

structure MadeFold (h h' : Heap) (C f : Addr) : Prop where
  keeps : ∀ b o, h.get? b = some o → h'.get? b = some o
  size : h'.objs.size = h.objs.size + 2
  bag : h'.get? h.objs.size = some { cls := .type "dict", data := .dict #[] }
  fold : h'.get? (h.objs.size + 1) = some { cls := .ref C, dict := some h.objs.size, data := .dict #[], slots := #[some (.ref f)] }

theorem init_D {x f : Addr} {dx : Option Addr} {of : Obj} {Q : Fin → Shared → Prop}
    (hC : h.get? C = some (excClassObj nm q C N bs bmD true sn sub false col dd k0 k1 k2 k3 k5 "dict.__new__"))
    (hx : h.get? x = some { cls := .ref C, dict := dx, data := .dict #[] })
    (hf : h.get? f = some of) (hfc : of.cls = .type "function")
    (hq : ∀ h', Heap.SameBut x h h' → h'.get? x = some { cls := .ref C, dict := dx, data := .dict #[], slots := #[some (.ref f)] } → Q (.done (.ret .none)) ⟨h', g, d, t, os⟩) :
    wpAny (model prog w) A (Builtin.«collections.defaultdict.__init__» ⟨[.ref x, .ref f], []⟩) Q E ⟨h, g, d, t, os⟩ := by
  have hcO : (Value.ref C :: bmD).contains (.type "collections.OrderedDict") = false := by
    rw [List.contains_cons, show bmD.contains (.type "collections.OrderedDict") = false from by decide, Bool.or_false]; rfl
  have hTf : (⟨h, g, d, t, os⟩ : Shared).TypeIs (.ref f) "function" := ⟨_, hf, hfc⟩
  have f1 := lkF_call
  unfold Builtin.«collections.defaultdict.__init__»
  repeat (any_goals (first | assumption | (with_reducible refine wpAny_isSubtype_exc hC ?_; rw [hcO]) | with_reducible refine wpAny_loadPart_at hx ?_ | with_reducible refine wpAny_loadPart_at hf ?_ | wp_step))
  have hne : x ≠ C := fun e => by rw [e, hC] at hx; cases hx
  generalize hh' : (h.update x fun o => { cls := o.cls, dict := o.dict, data := o.data, slots := (o.slots ++ Array.replicate (0 + 1 - o.slots.size) none).setIfInBounds 0 [Value.ref f].head? }) = h'
  have hs : Heap.SameBut x h h' := by rw [← hh']; exact Heap.SameBut.update ..
  have hx' : h'.get? x = some { cls := .ref C, dict := dx, data := .dict #[], slots := #[some (.ref f)] } := by rw [← hh']; exact Heap.get?_update_self _ hx rfl
  have hC' : h'.get? C = some (excClassObj nm q C N bs bmD true sn sub false col dd k0 k1 k2 k3 k5 "dict.__new__") := (hs.2 C (fun e => hne e.symm)).trans hC
  refine codeAny_builtin entryDI ?_
  unfold Builtin.«dict.__init__»
  repeat (any_goals (first | assumption | (with_reducible refine wpAny_isSubtype_exc hC' ?_; rw [hcO]) | with_reducible refine wpAny_loadPart_at hx' ?_ | wp_step))
  exact hq h' hs hx'

theorem check_initD {M : Model} {x f : Addr} {o : Obj} {Q : Unit → Shared → Prop} (hx : h.get? x = some o) (hc : o.cls = .ref C)
    (hC : h.get? C = some (excClassObj nm q C N bs bmD true sn sub false col dd k0 k1 k2 k3 k5 "dict.__new__")) (hq : Q () ⟨h, g, d, t, os⟩) :
    wpAny M A (checkBuiltinCall "collections.defaultdict.__init__" ⟨[.ref x, .ref f], []⟩) Q E ⟨h, g, d, t, os⟩ := by
  have ha : argsOk "collections.defaultdict.__init__" ⟨.ref x :: [.ref f], []⟩ := argsI _ _
  have hb : bmD.contains (.type "collections.defaultdict") = true := by decide
  with_reducible exact wpAny_check_slot_inst kindI splitI ha hb hx hc hC hq

theorem type_call_D {mN : Str → Option Value} {f : Addr} {of : Obj} {Q : Fin → Shared → Prop}
    (hC : h.get? C = some (excClassObj nm q C N bs bmD true sn sub false col dd k0 k1 k2 k3 k5 "dict.__new__")) (hn : h.Ns N mN) (hni : mN "__init__" = none)
    (hf : h.get? f = some of) (hfc : of.cls = .type "function")
    (hq : ∀ h', MadeFold h h' C f → Q (.done (.ret (.ref (h.objs.size + 1)))) ⟨h', g, d, t, os⟩) :
    wpAny (model prog w) A (Builtin.«type.__call__» ⟨[.ref C, .ref f], []⟩) Q E ⟨h, g, d, t, os⟩ := by
  repeat (first | with_reducible refine wpAny_loadPart_at hC ?_ | with_reducible refine wpAny_madeBy_exc hC ?_ | wp_step)
  refine codeAny_call_builtin_code (Code.quiet_builtin _ quietN) ?_
  refine check_new hC ?_
  refine code_new hC ?_
  show wpAny _ _ _ _ _ _
  have kp : ∀ b o, h.get? b = some o → ((h.push { cls := .type "dict", data := .dict #[] }).push { cls := .ref C, dict := some h.objs.size, data := .dict #[] }).get? b = some o := fun b o e => Heap.get?_push_of_some _ (Heap.get?_push_of_some _ e)
  have hget : ((h.push { cls := .type "dict", data := .dict #[] }).push { cls := .ref C, dict := some h.objs.size, data := .dict #[] }).get? (h.objs.size + 1) = some { cls := .ref C, dict := some h.objs.size, data := .dict #[] } := by heap_get
  have hgd : ((h.push { cls := .type "dict", data := .dict #[] }).push { cls := .ref C, dict := some h.objs.size, data := .dict #[] }).get? h.objs.size = some { cls := .type "dict", data := .dict #[] } :=
    Heap.get?_push_of_some _ (Heap.get?_push_at rfl rfl)
  have hsz : ((h.push { cls := .type "dict", data := .dict #[] }).push { cls := .ref C, dict := some h.objs.size, data := .dict #[] }).objs.size = h.objs.size + 2 := by simp only [Heap.size_push]
  generalize ((h.push { cls := .type "dict", data := .dict #[] }).push { cls := .ref C, dict := some h.objs.size, data := .dict #[] }) = h₁ at kp hget hgd hsz
  have hC₁ := kp _ _ hC
  have hf₁ := kp _ _ hf
  have hn₁ : h₁.Ns N mN := hn.keeps kp
  have hx : ∃ x, x = h.objs.size + 1 := ⟨_, rfl⟩
  obtain ⟨x, hx⟩ := hx
  rw [← hx] at hget ⊢
  have hcC : (Value.ref C :: bmD).contains (.ref C) = true := by simp
  unfold isInstance
  repeat (first | with_reducible refine wpAny_loadPart_at hget ?_ | (with_reducible refine wpAny_isSubtype_exc hC₁ ?_; rw [hcC]) | wp_step)
  show wpAny _ _ (typeLookup (.ref C) _) _ _ _
  refine wpAny_typeLookup_exc hC₁ hn₁ mroD lkD_init ?_
  rw [hni]
  refine wpAny_holding ?_
  refine wpAny_bind ?_
  refine wpAny_of_eq (slotI.bind _) ?_
  dsimp only [List.cons_append, List.nil_append]
  refine wpAny_bind ?_
  refine wpAny_call ?_
  refine codeAny_call_builtin slotI.plain entryI ?_
  refine check_initD hget rfl hC₁ ?_
  refine init_D hC₁ hget hf₁ hfc fun h' hs hx' => ?_
  repeat wp_step
  rw [hx]
  have hne : h.objs.size ≠ x := by omega
  refine hq h' ⟨fun b o e => ?_, hs.1.trans hsz, (hs.2 _ hne).trans hgd, by rw [← hx]; exact hx'⟩
  exact (hs.2 b (fun e2 => by have l := Heap.lt_size e; rw [e2, hx] at l; exact absurd l (Nat.not_lt.mpr (Nat.le_succ _)))).trans (kp b o e)

theorem call_D {mN : Str → Option Value} {f : Addr} {of : Obj} {Q : Value → Shared → Prop}
    (hC : h.get? C = some (excClassObj nm q C N bs bmD true sn sub false col dd k0 k1 k2 k3 k5 "dict.__new__")) (hn : h.Ns N mN) (hni : mN "__init__" = none)
    (hf : h.get? f = some of) (hfc : of.cls = .type "function")
    (hq : ∀ h', MadeFold h h' C f → Q (.ref (h.objs.size + 1)) ⟨h', g, d, t, os⟩) :
    wpAny (model prog w) A (call (.ref C) [.ref f]) Q E ⟨h, g, d, t, os⟩ := by
  have f1 := tc_lookup
  have f2 := tc_bind (.ref C)
  have hT : (⟨h, g, d, t, os⟩ : Shared).TypeIs (.ref C) "type" := ⟨_, hC, rfl⟩
  refine wpAny_call (codeAny_of_tree ?_)
  show wpAny _ _ (callAny (.ref C) _) _ _ _
  repeat (any_goals (first | assumption | with_reducible refine wpAny_loadPart_at hC ?_ | wp_step))
  refine ⟨rfl, ?_⟩
  refine codeAny_call_builtin_at (Code.quiet_builtin _ (by decide +kernel)) entry_typeCall (wpAny_check_type_call_sub hC (type_call_D hC hn hni hf hfc fun h' hm => ?_))
  exact hq h' hm
end
end
section
set_option maxHeartbeats 400000
theorem lk_md_get : typeLookup (.type "method_descriptor") "__get__" = pure (some (.builtin "method_descriptor.__get__")) := by rw [typeLookup_type, builtinLookup_eq_fast]; kernel_rfl
theorem ty_miss : typeOf (.builtin "collections.defaultdict.__missing__") = pure (.type "method_descriptor") := by show builtinType _ = _; rw [builtinType_eq_fast]; kernel_rfl
theorem own_miss : classOwn (.type "collections.defaultdict") "__missing__" = pure (some (.builtin "collections.defaultdict.__missing__")) := by
  show (pure (builtinOwn "collections.defaultdict" "__missing__") : Sem _) = _
  rw [builtinOwn_eq_fast]; kernel_rfl
theorem entry_md_get : entryFor table "method_descriptor.__get__" = some Builtin.«method_descriptor.__get__» := entryFor_of_tree (by kernel_rfl)
theorem args_md_get (a b c : Value) : argsOk "method_descriptor.__get__" ⟨[a, b, c], []⟩ := by unfold argsOk; kernel_rfl
theorem slot_md_get : Slot "method_descriptor" "__get__" "method_descriptor.__get__" :=
  .of (owner := "method_descriptor") (n := "__get__") lk_md_get (by decide +kernel) (by decide +kernel) (by decide +kernel)
    (by first | exact .inl (by decide +kernel) | exact .inr (by decide +kernel)) (by rw [isSubtype_type]; kernel_rfl)
theorem told_miss : Manifest.toldItsClass.contains "collections.defaultdict.__missing__" = false := by decide +kernel

theorem hid_miss : (toString "collections.defaultdict" ++ toString "." ++ toString (Str.ofString "__missing__").toString) = "collections.defaultdict.__missing__" := by decide +kernel
theorem kind_miss : builtinKind "collections.defaultdict.__missing__" = some .method := by decide +kernel
section
variable {prog : Program} {w : World} {A : Around} {E : Value → Shared → Prop} {s : Shared}
noncomputable abbrev boundMiss (x : Addr) : Obj := { cls := .type "builtin_function_or_method", data := .fields #[.builtin "collections.defaultdict.__missing__", .ref x] }
theorem run_md_get {x C : Addr} {ox : Obj} {P : Fin → Shared → Prop} (hx : s.heap.get? x = some ox) (hc : ox.cls = .ref C) (hsub : Looks (model prog w) s.heap (isSubtype (.ref C) (.type "collections.defaultdict")) true)
    (h : P (.done (.ret (.ref s.heap.objs.size))) { s with heap := s.heap.push (boundMiss x) }) :
    wpAny (model prog w) A (Builtin.«method_descriptor.__get__» ⟨[.builtin "collections.defaultdict.__missing__", .ref x, .ref C], []⟩) P E s := by
  unfold Builtin.«method_descriptor.__get__»
  refine wpAny_bind (wpAny_of_eq (a := (.builtin "collections.defaultdict.__missing__", some (.ref x), some (.ref C))) (by first | rfl | kernel_rfl) ?_)
  simp only [told_miss]
  refine KFB.if_not rfl ?_
  refine wpAny_bind ?_
  refine wpAny_bind (wpAny_of_eq (a := (("__missing__" : Str), .type "collections.defaultdict")) (by first | rfl | kernel_rfl) ?_)
  refine wpAny_bind ?_
  unfold isInstance
  obtain ⟨h, g, d, t, os⟩ := s
  repeat (first | (with_reducible refine wpAny_loadPart_at hx ?_; rw [hc]) | (refine hsub.here ?_) | wp_step)
  exact h
end
section
variable {prog : Program} {w : World} {A : Around} {E : Value → Shared → Prop} {h : Heap} {g : Array GenState} {d : Drawn} {t : Nat} {os : OsState}
theorem super_ga_miss {so x C : Addr} {ox : Obj} {tk : Tok} {Q : Fin → Shared → Prop}
    (hso : h.get? so = some (ks_superObj C x C)) (hno : Looks (model prog w) h (opaqueClassAbove (.ref C)) none)
    (hC : Looks (model prog w) h (mroOf (.ref C)) (.ref C :: bmD)) (hx : h.get? x = some ox) (hc : ox.cls = .ref C) (hsub : Looks (model prog w) h (isSubtype (.ref C) (.type "collections.defaultdict")) true) (hxC : x ≠ C)
    (hq : Q (.done (.ret (.ref h.objs.size))) ⟨h.push (boundMiss x), g, d, t, os⟩) :
    wpAny (model prog w) A (Builtin.«super.__getattribute__» ⟨[.ref so, .str "__missing__" tk], []⟩) Q E ⟨h, g, d, t, os⟩ := by
  have hne : (Value.ref x == Value.ref C) = false := by simp [hxC]
  have hn : (("__missing__" : Str) == ("__class__" : Str)) = false := by decide +kernel
  have hdt : (ks_superObj C x C).data = .fields #[.ref C, .ref x, .ref C] := rfl
  have f0 : (#[.ref C, .ref x, .ref C] : Array Value)[0]? = some (.ref C) := rfl
  have f1 : (#[.ref C, .ref x, .ref C] : Array Value)[1]? = some (.ref x) := rfl
  have f2 : (#[.ref C, .ref x, .ref C] : Array Value)[2]? = some (.ref C) := rfl
  have hl : ((Value.ref C :: bmD).dropWhile (· != .ref C)).drop 1 = bmD := by simp
  unfold Builtin.«super.__getattribute__»
  repeat (first
    | (with_reducible refine wpAny_field hso hdt f0 ?_) | (with_reducible refine wpAny_field hso hdt f1 ?_) | (with_reducible refine wpAny_field hso hdt f2 ?_)
    | (with_reducible refine ks_wpAny_notOpaque hno ?_)
    | (with_reducible refine Looks.at hC ?_; rw [hl])
    | (simp only [hn, hne, Bool.or_false, Bool.false_eq_true, if_false])
    | wp_step
    | dsimp only)
  rw [hid_miss]
  simp only [kind_miss]
  refine wpAny_of_eq lk_md_get ?_
  dsimp only
  refine wpAny_bind (wpAny_holding (wpAny_call_entry slot_md_get ty_miss entry_md_get (run_md_get (s := ⟨h, g, d, t, os⟩) hx hc hsub ⟨_, rfl, ?_⟩) (args_md_get _ _ _)))
  repeat (first | wp_step | dsimp only)
  exact hq

theorem attr_super_miss {so x C : Addr} {ox : Obj} {Q : Value → Shared → Prop}
    (hso : h.get? so = some (ks_superObj C x C)) (hno : Looks (model prog w) h (opaqueClassAbove (.ref C)) none)
    (hC : Looks (model prog w) h (mroOf (.ref C)) (.ref C :: bmD)) (hx : h.get? x = some ox) (hc : ox.cls = .ref C) (hsub : Looks (model prog w) h (isSubtype (.ref C) (.type "collections.defaultdict")) true) (hxC : x ≠ C)
    (hq : Q (.ref h.objs.size) ⟨h.push (boundMiss x), g, d, t + 1, os⟩) :
    wpAny (model prog w) A (getAttr (.ref so) "__missing__" true) Q E ⟨h, g, d, t, os⟩ := by
  have hlk := F.ks_slot_super_ga.lookup
  have hT : ∀ t', (⟨h, g, d, t', os⟩ : Shared).TypeIs (.ref so) "super" := fun _ => ⟨_, hso, rfl⟩
  unfold getAttr getAttrBy
  refine wpAny_bind (wpAny_mkText (wpAny_holding (wpAny_bind (wpAny_typeOf (hT _) (wpAny_bind (wpAny_of_eq hlk ?_))))))
  show wpAny _ _ (getAttrByItsOwn (.ref so) (.str _ t) (.type "super") (.builtin "super.__getattribute__") true true) _ _ _
  unfold getAttrByItsOwn hookBefore callGetattribute boundAndCalled
  refine wpAny_bind (wpAny_of_eq (show (if onTheHeap (.type "super") then typeLookup (.type "super") "__getattr__" else pure none) = pure none from rfl) ?_)
  refine wpAny_bind (wpAny_attempt (wpAny_holding ?_))
  show wpAny _ _ (bindSpecial (.builtin "super.__getattribute__") (.ref so) >>= _) _ _ _
  refine wpAny_bind (wpAny_of_eq (F.ks_slot_super_ga.bind _) ?_)
  refine wpAny_mono (Q := fun v s' => v = .ref h.objs.size ∧ s' = ⟨h.push (boundMiss x), g, d, t + 1, os⟩) (E := fun _ _ => False)
    (wpAny_call_entry F.ks_slot_super_ga (hT _) F.ks_entry_super_ga (super_ga_miss hso hno hC hx hc hsub hxC ⟨_, rfl, rfl, rfl⟩) (F.ks_gaArgs_super _ _)) (fun v s' hv => ?_) fun _ _ z => z.elim
  obtain ⟨rfl, rfl⟩ := hv
  exact wpAny_pure hq
end
end
section
set_option maxHeartbeats 400000
section
variable {prog : Program} {w : World} {A : Around} {E : Value → Shared → Prop} {K : Frag} {x C : Addr} {ox : Obj} {od : Option Obj} {h : Heap} {g : Array GenState} {d : Drawn} {t : Nat} {os : OsState}
theorem slot_ga : Slot "collections.defaultdict" "__getattribute__" "collections.defaultdict.__getattribute__" :=
  .of (owner := "collections.defaultdict") (n := "__getattribute__") (by rw [typeLookup_type, builtinLookup_eq_fast]; kernel_rfl) (by decide +kernel) (by decide +kernel) (by decide +kernel)
    (by first | exact .inl (by decide +kernel) | exact .inr (by decide +kernel)) (by rw [isSubtype_type]; kernel_rfl)
theorem en_ga : entryFor table "collections.defaultdict.__getattribute__" = some Builtin.«object.__getattribute__» :=
  entryFor_alias (id' := "object.__getattribute__") (by rw [fastTable_eq_tree]; kernel_rfl) (by decide +kernel) (by decide +kernel) (by rw [fastTable_eq_tree]; kernel_rfl)
theorem ar_ga (a b : Value) : argsOk "collections.defaultdict.__getattribute__" ⟨[a, b], []⟩ := by unfold argsOk; kernel_rfl
theorem kind_ga : builtinKind "collections.defaultdict.__getattribute__" = some .slot := by decide +kernel
theorem split_ga : splitId "collections.defaultdict.__getattribute__" = some ("collections.defaultdict", "__getattribute__") := by decide +kernel
theorem call_slot_inst {name : Value} {Q : Value → Shared → Prop} (I : InstAt h x ox C od) (hsub : Looks (model prog w) h (isSubtype (.ref C) (.type "collections.defaultdict")) true)
    (hq : wpAny (model prog w) A.in1 (Builtin.«object.__getattribute__» ⟨[.ref x, name], []⟩) (fun fin s' => ∃ v, fin = .done (.ret v) ∧ Q v s') E ⟨h, g, d, t, os⟩) :
    wpAny (model prog w) A (call (.builtin "collections.defaultdict.__getattribute__") [.ref x, name]) Q E ⟨h, g, d, t, os⟩ := by
  have L0 := I.type (M := model prog w)
  have hchk : ∀ {Q' : Unit → Shared → Prop}, Q' () ⟨h, g, d, t, os⟩ → wpAny (model prog w) A.in1 (checkBuiltinCall "collections.defaultdict.__getattribute__" ⟨[.ref x, name], []⟩) Q' E ⟨h, g, d, t, os⟩ := fun {Q'} hq' => by
    simp only [checkBuiltinCall, kind_ga, split_ga]
    refine wpAny_bind ?_
    unfold isInstance
    refine wpAny_bind (L0.at (hsub.at ?_))
    have ha := ar_ga (.ref x) name
    cases hsig : Manifest.signature? "collections.defaultdict.__getattribute__" with
    | none => exact wpAny_pure hq'
    | some sig =>
      simp only [argsOk, hsig] at ha
      have h2 : Bind.checkArgs "collections.defaultdict.__getattribute__" sig ⟨[.ref x, name], []⟩ = pure () := ha
      show wpAny (model prog w) A.in1 (Bind.checkArgs "collections.defaultdict.__getattribute__" sig ⟨[.ref x, name], []⟩) Q' E _
      rw [h2]; exact wpAny_pure hq'
  refine wpAny_call (codeAny_call_builtin slot_ga.plain en_ga (hchk ?_))
  refine wpAny_mono hq (fun fin s' hf => ?_) fun _ _ z => z
  obtain ⟨v, rfl, hv⟩ := hf
  exact hv
theorem call_ga {name : Str} {tk : Tok} {r : Builtin.ObjectAttr.Found} {Q : Value → Shared → Prop} (I : InstAt h x ox C od) (hsub : Looks (model prog w) h (isSubtype (.ref C) (.type "collections.defaultdict")) true)
    (L2 : Looks (model prog w) h (Builtin.ObjectAttr.find (.ref x) (.ref C) name) r)
    (hq : wpAny (model prog w) A.in1 (match r with | .value v => ret v | .bind g a => Builtin.ObjectAttr.bindTo g a (.ref x) (.ref C) | .missing => (Builtin.ObjectAttr.noSuchAttribute (.ref x) name : Sem Fin)) (fun fin s' => ∃ v, fin = .done (.ret v) ∧ Q v s') E ⟨h, g, d, t, os⟩) :
    wpAny (model prog w) A (call (.builtin "collections.defaultdict.__getattribute__") [.ref x, .str name tk]) Q E ⟨h, g, d, t, os⟩ := by
  have L0 := I.type (M := model prog w)
  have e1 : (Value.ref C == Value.type "module") = false := rfl
  have e2 : (Value.ref C == Value.type "type") = false := rfl
  refine call_slot_inst I hsub ?_
  refine wpAny_bind (wpAny_of_eq (a := (.ref x, [.str name tk])) (by first | rfl | kernel_rfl) ?_)
  dsimp only
  refine wpAny_bind (wpAny_of_eq (a := name) (by first | rfl | kernel_rfl) ?_)
  refine wpAny_bind (L0.at ?_)
  refine wpAny_bind (L2.at ?_)
  cases r with
  | value v => exact hq
  | bind gg a => exact hq
  | missing =>
    simp only [e1, e2, Bool.false_eq_true, if_false]
    exact hq
theorem by_frozen {v : Value} {tk : Tok} {Q : Value → Shared → Prop} (X : K.In h) (I : InstAt h x ox C od) (hga : findIn K (.ref C) "__getattribute__" = some (some (.builtin "collections.defaultdict.__getattribute__")))
    (hk : findIn K (.ref C) "__getattr__" = some none) (hin : mroIn K C (.type "collections.defaultdict") = some true)
    (hf : findObj K C od "_frozen" = some (.value v)) (hh : handedIn v = true) (hq : Q v ⟨h, g, d, t, os⟩) :
    wpAny (model prog w) A (getAttrBy (.ref x) (.str "_frozen" tk) false) Q E ⟨h, g, d, t, os⟩ := by
  have L0 := I.type (M := model prog w)
  have L1 := looks_findIn (M := model prog w) X hga
  have L2 := looks_find (M := model prog w) X I hf
  have L3 := looks_findIn (M := model prog w) X hk
  unfold getAttrBy
  refine wpAny_holding (wpAny_bind (L0.at (wpAny_bind (L1.at ?_))))
  show wpAny _ _ (getAttrByItsOwn _ _ _ _ _ _) _ _ _
  unfold getAttrByItsOwn hookBefore callGetattribute boundAndCalled
  refine wpAny_bind (L3.at ?_)
  refine wpAny_bind (wpAny_attempt (wpAny_holding ?_))
  show wpAny _ _ (bindSpecial _ (.ref x) >>= _) _ _ _
  refine wpAny_bind (wpAny_of_eq (slot_ga.bind _) ?_)
  refine call_ga I (looks_mroIn X hin) L2 ?_
  refine wpAny_pure ⟨_, rfl, ?_⟩
  show wpAny _ _ (handedOut v) _ _ _
  rw [handedOut_of hh]; exact wpAny_pure hq
theorem by_missing {tk : Tok} {Q : Value → Shared → Prop} {oC : Obj} {cd : ClassData} (hA : A.handled = none) (X : K.In h) (I : InstAt h x ox C od) (hga : findIn K (.ref C) "__getattribute__" = some (some (.builtin "collections.defaultdict.__getattribute__")))
    (hk : findIn K (.ref C) "__getattr__" = some none) (hin : mroIn K C (.type "collections.defaultdict") = some true) (hC : h.get? C = some oC) (hcd : oC.data = .cls cd) (hnm : cd.name = "FreezableDefaultDict")
    (hf : findObj K C od "_frozen" = some .missing)
    (hq : ∀ e h' tk', Heap.NewAttrErr h h' e (.ref x) "_frozen" → E (.ref e) ⟨h', g, d, tk', os⟩) :
    wpAny (model prog w) A (getAttrBy (.ref x) (.str "_frozen" tk) false) Q E ⟨h, g, d, t, os⟩ := by
  have L0 := I.type (M := model prog w)
  have L1 := looks_findIn (M := model prog w) X hga
  have L2 := looks_find (M := model prog w) X I hf
  have L3 := looks_findIn (M := model prog w) X hk
  have hsub : isSubtype (.type "AttributeError") (.type "AttributeError") = pure true := sub_AttributeError
  unfold getAttrBy
  refine wpAny_holding (wpAny_bind (L0.at (wpAny_bind (L1.at ?_))))
  show wpAny _ _ (getAttrByItsOwn _ _ _ _ _ _) _ _ _
  unfold getAttrByItsOwn hookBefore callGetattribute boundAndCalled
  refine wpAny_bind (L3.at ?_)
  refine wpAny_bind (wpAny_attempt (wpAny_holding ?_))
  show wpAny _ _ (bindSpecial _ (.ref x) >>= _) _ _ _
  refine wpAny_bind (wpAny_of_eq (slot_ga.bind _) ?_)
  refine call_ga I (looks_mroIn X hin) L2 ?_
  show wpAny _ _ (Builtin.ObjectAttr.noSuchAttribute _ _) _ _ _
  unfold Builtin.ObjectAttr.noSuchAttribute
  repeat (first | refine L0.at ?_ | wp_step)
  rw [hcd]
  refine wpAny_pure ?_
  have hs : Array.foldl (fun k c => k + (Str.utf8Of c).length) 0 (Str.ofString "FreezableDefaultDict").cps ≤ 100 := by decide +kernel
  simp only [hnm, hs, if_true]
  refine wpAny_pure ?_
  refine wpAny_raiseAttrError hA (fun h' tk' e he => ?_) ?_
  · obtain ⟨tt, uu, hee⟩ := he.there
    repeat (any_goals (first | assumption | (with_reducible refine wpAny_loadPart_at hee ?_) | wp_step))
    exact hq e h' tk' he
  · decide +kernel
theorem ty_getattr : builtinKind "getattr" = none := by decide +kernel
theorem pl_getattr : plainId "getattr" = true := by decide +kernel
theorem en_getattr : entryFor table "getattr" = some Builtin.«getattr» := entryFor_of_tree (by kernel_rfl)
theorem ar_getattr (a b c : Value) : argsOk "getattr" ⟨[a, b, c], []⟩ := by unfold argsOk; kernel_rfl
theorem sub_module {M : Model} (X : K.In h) (hm : mroIn K C (.type "module") = some false) : Looks M h (isSubtype (.ref C) (.type "module")) false := looks_mroIn X hm
theorem getattr_frozen {v dflt : Value} {tk : Tok} {Q : Value → Shared → Prop} (X : K.In h) (I : InstAt h x ox C od) (hga : findIn K (.ref C) "__getattribute__" = some (some (.builtin "collections.defaultdict.__getattribute__")))
    (hk : findIn K (.ref C) "__getattr__" = some none) (hin : mroIn K C (.type "collections.defaultdict") = some true) (hm : mroIn K C (.type "module") = some false)
    (hf : findObj K C od "_frozen" = some (.value v)) (hh : handedIn v = true) (hq : Q v ⟨h, g, d, t, os⟩) :
    wpAny (model prog w) A (call (.builtin "getattr") [.ref x, .str "_frozen" tk, dflt]) Q E ⟨h, g, d, t, os⟩ := by
  have L0 := I.type (M := model prog w)
  have L1 := sub_module (M := model prog w) X hm
  have hne : (("_frozen" : Str) != ("get_source" : Str)) = true := by decide +kernel
  refine call_function_entry ty_getattr pl_getattr en_getattr (ar_getattr _ _ _) ?_
  unfold Builtin.«getattr»
  refine wpAny_bind (wpAny_of_eq (a := [.ref x, .str "_frozen" tk, dflt]) (by first | rfl | kernel_rfl) ?_)
  dsimp only
  refine wpAny_bind (wpAny_of_eq (a := ()) (by first | rfl | kernel_rfl) ?_)
  refine wpAny_bind (wpAny_of_eq (a := none) (by first | rfl | kernel_rfl) ?_)
  dsimp only
  refine wpAny_bind ?_
  refine wpAny_bind ?_
  repeat (first | (with_reducible refine by_frozen X I hga hk hin hf hh ?_) | refine L0.at ?_ | refine L1.at ?_ | wp_step)
  exact ⟨_, rfl, hq⟩
theorem getattr_missing {dflt : Value} {tk : Tok} {Q : Value → Shared → Prop} {oC : Obj} {cd : ClassData} (hA : A.handled = none) (X : K.In h) (I : InstAt h x ox C od) (hga : findIn K (.ref C) "__getattribute__" = some (some (.builtin "collections.defaultdict.__getattribute__")))
    (hk : findIn K (.ref C) "__getattr__" = some none) (hin : mroIn K C (.type "collections.defaultdict") = some true) (hC : h.get? C = some oC) (hcd : oC.data = .cls cd) (hnm : cd.name = "FreezableDefaultDict")
    (hm : mroIn K C (.type "module") = some false)
    (hf : findObj K C od "_frozen" = some .missing)
    (hq : ∀ h' tk', (∀ b o, h.get? b = some o → h'.get? b = some o) → Q dflt ⟨h', g, d, tk', os⟩) :
    wpAny (model prog w) A (call (.builtin "getattr") [.ref x, .str "_frozen" tk, dflt]) Q E ⟨h, g, d, t, os⟩ := by
  have L0 := I.type (M := model prog w)
  have L1 := sub_module (M := model prog w) X hm
  have hne : (("_frozen" : Str) != ("get_source" : Str)) = true := by decide +kernel
  have hA' : A.in1.handled = none := hA
  have hsub : isSubtype (.type "AttributeError") (.type "AttributeError") = pure true := sub_AttributeError
  refine call_function_entry ty_getattr pl_getattr en_getattr (ar_getattr _ _ _) ?_
  unfold Builtin.«getattr»
  refine wpAny_bind (wpAny_of_eq (a := [.ref x, .str "_frozen" tk, dflt]) (by first | rfl | kernel_rfl) ?_)
  dsimp only
  refine wpAny_bind (wpAny_of_eq (a := ()) (by first | rfl | kernel_rfl) ?_)
  refine wpAny_bind (wpAny_of_eq (a := none) (by first | rfl | kernel_rfl) ?_)
  dsimp only
  refine wpAny_bind ?_
  refine wpAny_bind ?_
  repeat (first | (with_reducible refine by_missing hA' X I hga hk hin hC hcd hnm hf ?_) | refine L0.at ?_ | refine L1.at ?_ | wp_step)
  intro e h' tk' he
  obtain ⟨tt, uu, hee⟩ := he.there
  repeat (any_goals (first | assumption | (with_reducible refine wpAny_loadPart_at hee ?_) | wp_step))
  exact ⟨_, rfl, hq h' tk' he.keeps⟩
end
end
section
set_option maxHeartbeats 400000
noncomputable abbrev Kid := Str × Tok × Value
noncomputable def entOf (w : World) (k : Kid) : DictEntry := { hash := hashStr w k.1, key := .str k.1 k.2.1, val := k.2.2 }
noncomputable def esOf (w : World) (kids : List Kid) : Array DictEntry := (kids.map (entOf w)).toArray
noncomputable def kfind (kids : List Kid) (x : Str) : Option Value := (kids.find? fun k => decide (k.1 = x)).map (·.2.2)
section
variable {prog : Program} {w : World} {A : Around} {E : Value → Shared → Prop} {s : Shared}
theorem keysOf_es (kids : List Kid) : KeysOf (strKind prog w) (esOf w kids) := by
  intro e he
  unfold esOf at he
  rw [List.mem_toArray] at he
  obtain ⟨k, _, rfl⟩ := List.mem_map.mp he
  exact ⟨k.1, strKind_is prog w k.1 k.2.1, rfl⟩
theorem is_ent (k : Kid) (x : Str) : (strKind prog w).is x (entOf w k).key = decide (k.1 = x) := by
  show (strKind prog w).is x (.str k.1 k.2.1) = _
  rw [KeyKind.is_eq_decide (strKind_is prog w k.1 k.2.1)]
  exact decide_eq_decide.mpr ⟨fun h => h.symm, fun h => h.symm⟩
theorem findBy_es (kids : List Kid) (x : Str) : findBy (strKind prog w).is (esOf w kids) x = kfind kids x := by
  unfold findBy esOf kfind
  rw [List.find?_toArray]
  induction kids with
  | nil => rfl
  | cons k r ih =>
    simp only [List.map_cons, List.find?_cons, is_ent]
    cases decide (k.1 = x) with
    | true => rfl
    | false => exact ih
theorem idx_es (kids : List Kid) (x : Str) : ((esOf w kids).findIdx? fun e => (strKind prog w).is x e.key) = kids.findIdx? fun k => decide (k.1 = x) := by
  unfold esOf
  rw [List.findIdx?_toArray, List.findIdx?_map]
  exact congrArg (fun p => kids.findIdx? p) (funext fun k => is_ent (prog := prog) (w := w) k x)
theorem dget {d : Addr} {o : Obj} {kids : List Kid} {ep : Nat} {x : Str} {t : Tok} {Q : Option Value → Shared → Prop} (ho : s.heap.get? d = some o) (hd : o.data = .dict (esOf w kids) ep)
    (h : Q (kfind kids x) { s with toks := s.toks + 1 }) : wpAny (model prog w) A (dictGet d (.str x t)) Q E s := by
  have hkey := strKind_is prog w x t
  rw [← findBy_es (prog := prog) (w := w)] at h
  unfold dictGet
  try with_reducible refine wpAny_holding ?_
  refine wpAny_bind ((strKind prog w).pyHash hkey (wpAny_bind (wpAny_dictFind_of (s := { s with toks := s.toks + 1 }) hkey ho hd (keysOf_es kids) ?_)))
  rw [findBy_of_findIdx?] at h
  cases hi : (esOf w kids).findIdx? fun e => (strKind prog w).is x e.key with
  | none => rw [hi] at h; exact wpAny_pure h
  | some i => rw [hi] at h; exact wpAny_bind (wpAny_dictEntries (s := { s with toks := s.toks + 1 }) ho hd (wpAny_pure h))
theorem esOf_push (kids : List Kid) (k : Kid) : (esOf w kids).push (entOf w k) = esOf w (kids ++ [k]) := by
  unfold esOf; simp
/-- what setdefault does where the key is not there -/
theorem dsetdef {d : Addr} {C : Value} {dx : Option Addr} {sl : Array (Option Value)} {kids : List Kid} {ep : Nat} {x : Str} {t : Tok} {v : Value} {Q : Value → Shared → Prop}
    (ho : s.heap.get? d = some { cls := C, dict := dx, data := .dict (esOf w kids) ep, slots := sl }) (hn : kfind kids x = none) (hz : kids.length ≤ sizeLine)
    (h : ∀ h', Heap.SameBut d s.heap h' → h'.get? d = some { cls := C, dict := dx, data := .dict (esOf w (kids ++ [(x, t, v)])) (ep + 1), slots := sl } → Q v { s with heap := h', toks := s.toks + 1 }) :
    wpAny (model prog w) A (dictSetDefault d (.str x t) v) Q E s := by
  have hkey := strKind_is prog w x t
  have hnone : ((esOf w kids).findIdx? fun e => (strKind prog w).is x e.key) = none := by
    rw [idx_es]
    rw [List.findIdx?_eq_none_iff]
    intro k hk
    unfold kfind at hn
    rw [Option.map_eq_none_iff, List.find?_eq_none] at hn
    simpa using hn k hk
  unfold dictSetDefault
  try with_reducible refine wpAny_holding ?_
  refine wpAny_bind ((strKind prog w).pyHash hkey ?_)
  refine wpAny_bind (wpAny_dictFind_of (s := { s with toks := s.toks + 1 }) hkey ho rfl (keysOf_es kids) ?_)
  rw [hnone]
  refine wpAny_bind (wpAny_rule (wpAny_bind (wpAny_updateDictKeys (hz := by unfold esOf; simpa using hz) (s := { s with toks := s.toks + 1 }) ho rfl (wpAny_pure (h _ (Heap.SameBut.update ..) ?_)))))
  rw [Heap.get?_update_self _ ho rfl]
  show some (Obj.mapDictKeys _ _) = _
  rw [← esOf_push]
  rfl
end
end
section
set_option maxHeartbeats 400000
noncomputable abbrev foldObj (w : World) (C : Addr) (dx : Addr) (f : Addr) (kids : List Kid) (n : Nat) : Obj := { cls := .ref C, dict := some dx, data := .dict (esOf w kids) n, slots := #[some (.ref f)] }
noncomputable abbrev bag0 : Obj := { cls := .type "dict", data := .dict #[] }
theorem en_miss : entryFor table "collections.defaultdict.__missing__" = some Builtin.«collections.defaultdict.__missing__» := entryFor_of_tree (by kernel_rfl)
theorem pl_miss : plainId "collections.defaultdict.__missing__" = true := by decide +kernel
theorem en_setdef : entryFor table "dict.setdefault" = some Builtin.«dict.setdefault» := entryFor_of_tree (by kernel_rfl)
section
variable {prog : Program} {w : World} {A : Around} {E : Value → Shared → Prop}
theorem code_setdef {s : Shared} {C x dx f : Addr} {kids : List Kid} {n : Nat} {y : Str} {t : Tok} {v : Value} {R : Result → Shared → Prop}
    (hx : s.heap.get? x = some (foldObj w C dx f kids n)) (hsub : Looks (model prog w) s.heap (isSubtype (.ref C) (.type "collections.OrderedDict")) false) (hxs : (x == sysModules) = false)
    (hn : kfind kids y = none) (hz : kids.length ≤ sizeLine)
    (h : ∀ h', Heap.SameBut x s.heap h' → h'.get? x = some (foldObj w C dx f (kids ++ [(y, t, v)]) (n + 1)) → R (.ok (.ret v)) { s with heap := h', toks := s.toks + 1 }) :
    codeAny (model prog w) A (.builtin "dict.setdefault" ⟨[.ref x, .str y t, v], []⟩) R s := by
  refine codeAny_builtin en_setdef ?_
  unfold Builtin.«dict.setdefault» Builtin.Dict.keyAndDefault
  obtain ⟨hp, g, d, tk, os⟩ := s
  repeat (any_goals (first | assumption | (with_reducible refine dsetdef hx hn hz ?_) | (with_reducible refine wpAny_loadPart_at hx ?_) | refine hsub.at ?_ | wp_step))
  exact fun h' hs hx' => wpAny_pure (h h' hs hx')
theorem callBorrowed_eq (f : Value) (pos : List Value) : callBorrowed f pos = (call f pos).keep [borrowed] := by
  unfold callBorrowed call runValue run
  show _ = Sem.call _ _ _ _ _
  congr 1
  funext r
  rcases r with e | f
  · rfl
  · cases f <;> rfl
theorem callBorrowed_of {M : Model} {s : Shared} {f : Value} {pos : List Value} {Q : Value → Shared → Prop} (h : wpAny M A (call f pos) Q E s) : wpAny M A (callBorrowed f pos) Q E s := by
  rw [callBorrowed_eq]; exact wpAny_keep h
theorem code_defmiss {s : Shared} {C x dx f : Addr} {of : Obj} {fd : FuncData} {kids : List Kid} {n : Nat} {y : Str} {t : Tok} {R : Result → Shared → Prop}
    (hx : s.heap.get? x = some (foldObj w C dx f kids n)) (hf : s.heap.get? f = some of) (hfd : of.data = .func fd) (hxs : (x == sysModules) = false)
    (hn : kfind kids y = none) (hz : kids.length ≤ sizeLine)
    (h : wpAny (model prog w) A.in1 (call (.ref f) []) (fun v s₁ =>
      s₁.heap.get? x = some (foldObj w C dx f kids n) ∧ Looks (model prog w) s₁.heap (isSubtype (.ref C) (.type "collections.OrderedDict")) false ∧
      ∀ h', Heap.SameBut x s₁.heap h' → h'.get? x = some (foldObj w C dx f (kids ++ [(y, t, v)]) (n + 1)) → R (.ok (.ret v)) { s₁ with heap := h', toks := s₁.toks + 1 })
      (fun e s' => R (.error e) s') s) :
    codeAny (model prog w) A (.builtin "collections.defaultdict.__missing__" ⟨[.ref x, .str y t], []⟩) R s := by
  refine codeAny_builtin en_miss ?_
  rw [Around.under_plainId pl_miss]
  unfold Builtin.«collections.defaultdict.__missing__» Builtin.Collections_defaultdict.factory?
  obtain ⟨hp, g, d, tk, os⟩ := s
  refine wpAny_bind (wpAny_of_eq (a := (.ref x, .str y t)) (by first | rfl | kernel_rfl) ?_)
  dsimp only
  refine wpAny_bind ?_
  unfold slotAt
  refine wpAny_bind (wpAny_bind (wpAny_loadPart_at hx ?_))
  refine wpAny_pure ?_
  dsimp only
  refine wpAny_pure ?_
  show wpAny _ _ (callOutOfASlot (.ref f) [] >>= _) _ _ _
  unfold callOutOfASlot borrowsExactly
  refine wpAny_bind (wpAny_bind (wpAny_bind (wpAny_load hf ?_)))
  rw [hfd]
  refine wpAny_pure ?_
  rw [if_pos rfl]
  refine callBorrowed_of (wpAny_mono h (fun v s₁ h₁ => ?_) fun _ _ z => z)
  obtain ⟨a1, a2, a3⟩ := h₁
  refine wpAny_pure ⟨Code.quiet_builtin _ (by decide +kernel), code_setdef a1 a2 hxs hn hz a3⟩
end
end
section
set_option maxHeartbeats 400000
theorem sig_miss : Manifest.signature? "collections.defaultdict.__missing__" = some ⟨.oneArg, "defaultdict.__missing__", "__missing__", .self, [⟨"object", .posOnly, true⟩]⟩ := by kernel_rfl
theorem var_miss : Manifest.varargsMethods.contains "collections.defaultdict.__missing__" = false := by decide +kernel
section
variable {prog : Program} {w : World} {A : Around} {E : Value → Shared → Prop}
theorem call_bm {s : Shared} {b C x dx f : Addr} {of oC : Obj} {cd : ClassData} {fd : FuncData} {kids : List Kid} {n : Nat} {y : Str} {t : Tok} {Q : Value → Shared → Prop}
    (hb : s.heap.get? b = some (boundMiss x)) (hm : Looks (model prog w) s.heap (isSubtype (.ref C) (.type "module")) false)
    (hC : s.heap.get? C = some oC) (hcd : oC.data = .cls cd) (hct : oC.cls = .type "type") (hq : cd.qualname = "FreezableDefaultDict")
    (hx : s.heap.get? x = some (foldObj w C dx f kids n)) (hf : s.heap.get? f = some of) (hfd : of.data = .func fd) (hxs : (x == sysModules) = false)
    (hn : kfind kids y = none) (hz : kids.length ≤ sizeLine)
    (h : wpAny (model prog w) A.in1 (call (.ref f) []) (fun v s₁ =>
      s₁.heap.get? x = some (foldObj w C dx f kids n) ∧ Looks (model prog w) s₁.heap (isSubtype (.ref C) (.type "collections.OrderedDict")) false ∧
      ∀ h', Heap.SameBut x s₁.heap h' → h'.get? x = some (foldObj w C dx f (kids ++ [(y, t, v)]) (n + 1)) → Q v { s₁ with heap := h', toks := s₁.toks + 1 }) E s) :
    wpAny (model prog w) A (call (.ref b) [.str y t]) Q E s := by
  obtain ⟨hp, g, d, tk, os⟩ := s
  have hTC : (⟨hp, g, d, tk, os⟩ : Shared).TypeIs (.ref C) "type" := ⟨_, hC, hct⟩
  have hLx : Looks (model prog w) hp (typeOf (.ref x)) (.ref C) := (Looks.ld hx).andThen .now
  refine wpAny_call (codeAny_of_tree ?_)
  show wpAny _ _ (callAny (.ref b) _) _ _ _
  unfold callAny
  refine wpAny_bind (wpAny_load hb ?_)
  dsimp only
  simp only [show (Value.type "builtin_function_or_method" == Value.type "method" || Value.type "builtin_function_or_method" == Value.type "builtin_function_or_method" || Value.type "builtin_function_or_method" == Value.type "method-wrapper") = true by decide, show (Value.type "builtin_function_or_method" != Value.type "method") = true by decide, if_true]
  show wpAny _ _ (checkBoundCall "collections.defaultdict.__missing__" ⟨[.ref x, .str y t], []⟩ >>= _) _ _ _
  refine wpAny_bind ?_
  unfold checkBoundCall
  simp only [sig_miss, kind_miss, var_miss]
  repeat (any_goals (first | assumption | (with_reducible refine wpAny_loadPart_at hx ?_) | (with_reducible refine wpAny_loadPart_at hC ?_) | refine hLx.at ?_ | refine hm.at ?_ | wp_step))
  rw [hcd]
  refine wpAny_pure ?_
  refine wpAny_bind (wpAny_typeOf hTC ?_)
  rw [if_pos (by decide), hq]
  refine wpAny_of_eq (a := ()) (by kernel_rfl) ?_
  refine wpAny_pure ⟨Code.quiet_builtin _ (by decide +kernel), ?_⟩
  exact code_defmiss hx hf hfd hxs hn hz h
end
end
section
set_option maxHeartbeats 400000
/-- a call seen from a smaller ground -/
structure Under (g h : Heap) (news : List (Addr × Obj)) : Prop where
  kg : Keeps g h
  sz : g.objs.size ≤ h.objs.size
  at_ : ∀ p ∈ news, h.get? p.1 = some p.2 ∧ g.get? p.1 = none
theorem enterG {prog : Program} {w : World} {A : Around} {s : Shared} {K : Frag} {Q E : Value → Shared → Prop} {g : Heap} {news : List (Addr × Obj)}
    {p : Program} {loose : List Str} {mg mb : Str → Option Value}
    {name qual : Str} {params : Arguments} {body : List Stmt} {scope : Scope} {dV kV doc pm cdv ct oc : Value} {an od : Option Addr} {osl : Array (Option Value)} {f : Addr} {pos : List Value} {kw : List (Str × Value)} (binds : List (Str × Value))
    (X : K.In g) (T : TopRead p loose mg mb g) (U : Under g s.heap news)
    (ho : K.lookup f = some ⟨oc, od, .func (fnOf name qual params body scope dV kV doc pm an cdv ct), osl⟩) (hcd : codeIn K cdv qual = true) (hroom : A.depth < recursionLimit)
    (hbind : BindsTo s (fnOf name qual params body scope dV kV doc pm an cdv ct) ⟨pos, kw⟩ binds) (hloc : ∀ y ∈ binds, scope.names.lookup y.1 = some .local)
    (h : ∀ L' h₁, Fr g L' h₁ (fun y => binds.reverse.lookup y) → News g L' h₁ news →
      wpAny (model prog w) (A.deeper (envOf qual scope L' f cdv)) (execs body (envOf qual scope L' f cdv))
        (fun fl s' => Q (match fl with | .ret v => v | _ => .none) s')
        (fun _ _ => False)
        { s with heap := h₁, toks := s.toks + binds.length })
    (hco : scope.isCoroutine = false) (hgen : scope.isGenerator = false) (hk : scope.kind = .function)
    (hcell : ∀ x ∈ scope.names, x.2 ≠ .cell) : wpAny (model prog w) A (PySem.call (.ref f) pos kw) Q E s := by
  refine enter binds (X.keeps U.kg) (T.keeps U.kg) ho hcd hroom hbind hloc (fun L' h₁ F N => h L' h₁ ⟨F.ns, fun b o e => F.keep b o (U.kg b o e), Nat.le_trans U.sz F.above⟩ fun p hp => ⟨F.keep _ _ (U.at_ p hp).1, ?_, (U.at_ p hp).2⟩) hco hgen hk hcell
  exact Nat.ne_of_lt (Nat.lt_of_lt_of_le (Heap.lt_size (U.at_ p hp).1) F.above)
end
section
set_option maxHeartbeats 400000
noncomputable abbrev wpT {α : Type} := @PySem.wpAt α
section
variable {M : Model} {A : Around} {c : Code} {E : Value → Shared → Prop} {s : Shared} {env : Env}
theorem at_Call {F : Expr} {args : List Expr} {pos : Pos} {Q : Value → Shared → Prop} (h : wpT M A c (eval F env) (fun f s₁ => wpT M A c (callWith pos f [] (backTo pos (starEach args env)) []) Q E s₁) E s)
    (he : eval (.Call F args [] pos) env = (eval F env >>= fun f => callWith pos f [] (backTo pos (starEach args env)) []) := by rfl) : wpT M A c (eval (.Call F args [] pos) env) Q E s := by
  rw [he]; exact PySem.wpAt_bind h
theorem at_spliced_cons {x : Sem Value} {rest : List (Bool × Sem Value)} {Q : List Value → Shared → Prop}
    (h : wpT M A c x (fun v s₁ => wpT M A c (spliced rest) (fun vs s₂ => Q (v :: vs) s₂) E s₁) E s) : wpT M A c (spliced ((false, x) :: rest)) Q E s := by
  rw [spliced]
  refine PySem.wpAt_bind (PySem.wpAt_mono h (fun v s₁ h₁ => ?_) fun _ _ x => x)
  simp only [Bool.false_eq_true, if_false]
  exact PySem.wpAt_bind (wpAt_of_wpAny (wpAny_pure (PySem.wpAt_bind (ks_wpAt_holding (PySem.wpAt_mono h₁ (fun vs s₂ h₂ => wpAt_of_wpAny (wpAny_pure h₂)) fun _ _ x => x)))))
theorem at_evalArgs_plain {f : Value} {x : Sem Value} {rest : List (Bool × Sem Value)} {Q : Args → Shared → Prop}
    (h : wpT M A c (spliced ((false, x) :: rest)) (fun vs s' => Q ⟨vs, []⟩ s') E s) : wpT M A c (evalArgs f true ((false, x) :: rest) []) Q E s := by
  unfold evalArgs
  show wpT M A c (spliced ((false, x) :: rest) >>= _) Q E s
  refine PySem.wpAt_bind (PySem.wpAt_mono h (fun vs s' h' => ?_) fun _ _ x => x)
  refine wpAt_of_wpAny (wpAny_holding ?_)
  exact wpAny_bind (wpAny_pure (wpAny_bind (wpAny_pure (wpAny_pure h'))))
theorem at_callWith_builtin {pos : Pos} {id : String} {first : List Value} {args : List (Bool × Sem Value)} {Q : Value → Shared → Prop} (hplain : args.any (·.1) = false)
    (h : wpT M A c (evalArgs (.builtin id) true args []) (fun a s₁ => wpAny M A (call (.builtin id) (first ++ a.pos) a.kw) Q E s₁) E s) :
    wpT M A c (callWith pos (.builtin id) first args []) Q E s := by
  unfold callWith
  refine PySem.wpAt_bind (ks_wpAt_holding (PySem.wpAt_mono h (fun a s₁ h₁ => wpAt_of_wpAny (wpAny_bind (wpAny_standAt ?_))) fun _ _ x => x))
  simp only [hplain, List.any_nil, Bool.or_false]
  refine wpAny_bind (wpAny_pure ?_)
  exact wpAny_bind (wpAny_mono h₁ (fun r s₂ hr => wpAny_bind (wpAny_holding (wpAny_point (wpAny_pure hr)))) fun _ _ x => x)
theorem at_Attribute {value : Expr} {attr : Str} {pos : Pos} {Q : Value → Shared → Prop}
    (h : wpT M A c (attributeBase value attr env (eval value env)) (fun o s₁ => wpAny M A (getAttr o attr true) (fun r s₂ => wpAny M A (letTemporaryGo value o r) (fun _ s₃ => Q r s₃) E s₂) E s₁) E s)
    (he : eval (.Attribute value attr pos) env = (do
      let o ← attributeBase value attr env (eval value env)
      standAt pos.atName
      let r ← holding [o] (getAttr o attr true)
      letTemporaryGo value o r
      pure r) := by rfl) : wpT M A c (eval (.Attribute value attr pos) env) Q E s := by
  rw [he]
  exact PySem.wpAt_bind (PySem.wpAt_mono h (fun o s₁ h₁ => wpAt_of_wpAny (wpAny_bind (wpAny_standAt (wpAny_bind (wpAny_holding (wpAny_mono h₁ (fun r s₂ h₂ => wpAny_bind (wpAny_mono h₂ (fun _ s₃ h₃ => wpAny_pure h₃) fun _ _ x => x)) fun _ _ x => x)))))) fun _ _ x => x)
end
section
variable {prog : Program} {w : World} {A : Around} {E : Value → Shared → Prop} {s : Shared}
theorem lg_entry : entryFor table "proto.let_go" = some Builtin.«proto.let_go» := entryFor_of_tree (by kernel_rfl)
theorem let_go {v : Expr} {o r : Addr} {Q : Unit → Shared → Prop} (hv : ∀ x p, v ≠ .Name x p) (h : Q () s) : wpAny (model prog w) A (letTemporaryGo v (.ref o) (.ref r)) Q E s := by
  have e : letTemporaryGo v (.ref o) (.ref r) = (do let _ ← holding [.ref r] (runValue (.builtin "proto.let_go" {}))) := by
    cases v <;> first | rfl | exact absurd rfl (hv _ _)
  rw [e]
  refine wpAny_bind (wpAny_holding (wpAny_runValue (codeAny_builtin lg_entry ?_)))
  exact wpAny_pure (wpAny_pure h)

theorem enterAt {K : Frag} {Q E : Value → Shared → Prop} {g : Heap} {news : List (Addr × Obj)}
    {p : Program} {loose : List Str} {mg mb : Str → Option Value}
    {name qual : Str} {params : Arguments} {body : List Stmt} {scope : Scope} {dV kV doc pm cdv ct oc : Value} {an od : Option Addr} {osl : Array (Option Value)} {f cc : Addr} {pos : List Value} {kw : List (Str × Value)} (binds : List (Str × Value))
    (X : K.In g) (T : TopRead p loose mg mb g) (U : Under g s.heap news)
    (ho : K.lookup f = some ⟨oc, od, .func (ksFn name qual params body scope dV kV doc pm an cdv ct cc), osl⟩) (hcd : codeIn K cdv qual = true) (hroom : A.depth < recursionLimit)
    (hbind : BindsTo s (ksFn name qual params body scope dV kV doc pm an cdv ct cc) ⟨pos, kw⟩ binds) (hloc : ∀ y ∈ binds, scope.names.lookup y.1 = some .local)
    (h : ∀ L' h₁, Fr g L' h₁ (fun y => binds.reverse.lookup y) → News g L' h₁ news → (∀ b o, s.heap.get? b = some o → h₁.get? b = some o) →
      wpT (model prog w) (A.deeper (ksEnv qual scope L' f cdv cc)) (.func body (ksEnv qual scope L' f cdv cc)) (execs body (ksEnv qual scope L' f cdv cc))
        (fun fl s' => Q (match fl with | .ret v => v | _ => .none) s')
        (fun _ _ => False)
        { s with heap := h₁, toks := s.toks + binds.length })
    (hco : scope.isCoroutine = false) (hgen : scope.isGenerator = false) (hk : scope.kind = .function)
    (hcell : ∀ x ∈ scope.names, x.2 ≠ .cell) : wpAny (model prog w) A (PySem.call (.ref f) pos kw) Q E s := by
  refine wpAny_call ?_
  refine ks_codeAny_call_defAt (fd := ksFn name qual params body scope dV kV doc pm an cdv ct cc) (body := body) (binds := binds) hroom ((X.keeps U.kg) _ _ ho) rfl (T.nolimit.keeps U.kg) (codeRec_of (X.keeps U.kg) hcd) rfl hbind hcell hloc (fun h₁ hns hk₁ => ?_) hco hgen hk
  refine ks_wpAt_mono (h s.heap.objs.size h₁ ⟨hns, fun b o e => hk₁ b o (U.kg b o e), U.sz⟩ (fun p hp => ⟨hk₁ _ _ (U.at_ p hp).1, ?_, (U.at_ p hp).2⟩) hk₁) (fun fl s' hl => hl) fun _ _ y => y.elim
  exact Nat.ne_of_lt (Heap.lt_size (U.at_ p hp).1)
end
section
variable {prog : Program} {w : World} {A : Around} {E : Value → Shared → Prop} {s : Shared} {K : Frag} {g : Heap} {L : Addr} {m mg mb : Str → Option Value} {news : List (Addr × Obj)} {p : Program} {loose : List Str}
/-- `super().attr` in a method, read through TopRead -/
theorem super_read {body : List Stmt} {q : Str} {scope : Scope} {p0 p1 : Pos} {attr : Str} {whole : Sem Value} {fd : FuncData} {ar : Arg} {vs : Array Value} {file : Str} {tf : Tok} {oc ccl cl : Value} {od cdd cld : Option Addr} {osl ccs csl : Array (Option Value)}
    {f x C D cda cc : Addr} {ox : Obj} {odx : Option Obj} {cdD : ClassData} {Q : Value → Shared → Prop}
    (F : Fr g L s.heap m) (X₀ : K.In g) (N : News g L s.heap news) (T : TopRead p loose mg mb g)
    (hf : K.lookup f = some ⟨oc, od, .func fd, osl⟩) (hp : (fd.params.posonlyargs ++ fd.params.args).head? = some ar) (hv : m ar.arg = some (.ref x)) (I : InstAt s.heap x ox C odx)
    (hcode : K.lookup cda = some ⟨ccl, cdd, .fields vs, ccs⟩) (hvs : vs[2]? = some (.str file tf)) (hfile : ((prog.main.file : Str) == file) = true)
    (hcell : K.lookup cc = some ⟨cl, cld, .cell (some (.ref D)), csl⟩) (hD : clsIn K D = some cdD) (hsub : mroIn K C (.ref D) = some true) (hsuper : nsIn K mainGlobals "super" = some none)
    (hat : (attr == ("__class__" : Str)) = false) (hks : scope.names.lookup ("super" : Str) = some .globalImplicit) (hkc : scope.names.lookup ("__class__" : Str) = some .free) (hka : scope.names.lookup ar.arg = some .local) (hk : scope.kind = .function)
    (htop : (prog.main.scope.names.lookup ("super" : Str)).isSome = false) (hboot : bootBuiltins "super" = some (.type "super"))
    (h : ∀ so h', Fr g L h' m → News g L h' ((so, ks_superObj D x C) :: news) → (∀ b o, s.heap.get? b = some o → h'.get? b = some o) → Q (.ref so) { s with heap := h' }) :
    wpT (model prog w) A (.func body (ksEnv q scope L f (.ref cda) cc)) (attributeBase (.Call (.Name "super" p0) [] [] p1) attr (ksEnv q scope L f (.ref cda) cc) whole) Q E s := by
  have X : K.In s.heap := X₀.keeps F.keep
  obtain ⟨hh, gg, d, t, os⟩ := s
  obtain ⟨oD, hD1, hD2⟩ : ∃ oD, hh.get? D = some oD ∧ oD.data = .cls cdD := by
    unfold clsIn at hD
    split at hD
    · rename_i c d cd' sl ho
      cases hD
      exact ⟨_, X _ _ ho, rfl⟩
    · cases hD
  have hno : ∀ c, ox.data ≠ .cls c := fun c e => by
    have hn := I.no
    unfold notCls at hn
    rw [e] at hn
    exact Bool.noConfusion hn
  refine ks_wpAt_super_base (env := ksEnv q scope L f (.ref cda) cc) hks hkc hat rfl (X _ _ hf) rfl hp rfl (X _ _ hcode) rfl hvs hfile htop ?_
  refine ks_loadName_global hk hks (loadGlobal_builtin (env := ksEnv q scope L f (.ref cda) cc) (T.g.keeps F.keep) (mg_none_of X₀ T.g hsuper) (T.b.keeps F.keep) ((T.builtins _ (by decide +kernel)).trans hboot) ⟨rfl, ?_⟩)
  refine wpAny_loadName_free hk hkc rfl ⟨_, X _ _ hcell, rfl⟩ (wpAny_loadName_local hk hka F.ns hv (ks_wpAny_isType_cls hD1 hD2 ⟨rfl, ?_⟩))
  refine ks_wpAny_call_super hD1 hD2 I.at_ I.cls hno (looks_mroIn X hsub) (fun h' e k => ?_)
  have n := ks_newsPush (s := ⟨hh, gg, d, t, os⟩) F N rfl e k
  exact h _ _ n.1 n.2.1 k
theorem at_val {α : Type} {t : Sem α} {c : Code} {M : Model} {Q : α → Shared → Prop} {a : α} {s' : Shared} (h : wpAny M A t (fun v s₁ => v = a ∧ s₁ = s') (fun _ _ => False) s) (k : Q a s') : wpT M A c t Q E s :=
  PySem.wpAt_mono (wpAt_of_wpAny h) (fun v s₁ e => by rw [e.1, e.2]; exact k) fun _ _ e => e.elim
theorem callWith_bm {M : Model} {pos : Pos} {u x : Addr} {first : List Value} {args : List (Bool × Sem Value)} {Q : Value → Shared → Prop} (hplain : args.any (·.1) = false)
    (h : wpAny M A (evalArgs (.ref u) true args []) (fun x' s₁ => s₁.heap.get? u = some (boundMiss x) ∧ wpAny M A (call (.ref u) (first ++ x'.pos) x'.kw) Q E s₁) E s) : wpAny M A (callWith pos (.ref u) first args []) Q E s := by
  unfold callWith
  refine wpAny_bind (wpAny_holding (wpAny_mono h (fun x s₁ h₁ => wpAny_bind (wpAny_standAt ?_)) fun _ _ x => x))
  obtain ⟨ho, hcall⟩ := h₁
  simp only [hplain, List.any_nil, Bool.or_false]
  refine wpAny_bind (m := keeperOf (.ref u)) ?_
  unfold keeperOf
  refine wpAny_bind (wpAny_load ho ?_)
  simp only [show (Value.type "builtin_function_or_method" != Value.type "method") = true by decide, show (Value.type "builtin_function_or_method" == Value.type "builtin_function_or_method" || Value.type "builtin_function_or_method" == Value.type "method-wrapper") = true by decide, if_true]
  refine wpAny_pure ?_
  exact wpAny_bind (wpAny_mono hcall (fun r s₂ hr => wpAny_bind (wpAny_holding (wpAny_point (wpAny_pure hr)))) fun _ _ x => x)
end
end
section
/-- the class in the written heap -/
theorem fd_cls {P : Params} : ∃ oC cd, (K2 P).lookup 65 = some oC ∧ oC.data = .cls cd ∧ oC.cls = .type "type" ∧ cd.qualname = Str.ofString "FreezableDefaultDict" ∧ cd.name = Str.ofString "FreezableDefaultDict" := ⟨_, _, rfl, rfl, rfl, rfl, rfl⟩

theorem missing_ct : ∀ {w : World} {dp un : Nat} {fr : Option (List Env)} {gd : Option (List Code)} {s : Shared} {Q E : Value → Shared → Prop} {x dx f : Addr} {of : Obj} {fd : FuncData} {kids : List Kid} {n : Nat} {y : Str} {t : Tok}
   {p loose mg mb} {g : Heap} {R : Value → Heap → Heap → Prop}
   (X : (K2 w.params).In g) (T : TopRead p loose mg mb g) (U : Under g s.heap [(x, foldObj w 65 dx f kids n), (dx, bag0)]) (hdp : dp + 15 < 1000) (hu : un + 60 < 9900)
   (hf : g.get? f = some of) (hfd : of.data = .func fd) (hxs : (x == sysModules) = false)
   (hn : kfind kids y = none) (hz : kids.length ≤ 1000)
   (hcall : ∀ fr' h₀ tk₀, (∀ b o, s.heap.get? b = some o → h₀.get? b = some o) → g.objs.size ≤ h₀.objs.size →
      wpAny (model PySem.Challenge.rw_il0142_02.row.prog w) (Ar (dp + 1) (un + 4) fr' gd) (call (.ref f) []) (fun v s₁ => ∃ h₁ tk₁, s₁ = { s with heap := h₁, toks := tk₁ } ∧ (∀ b o, h₀.get? b = some o → h₁.get? b = some o) ∧ R v h₀ h₁) (fun _ _ => False) { s with heap := h₀, toks := tk₀ })
   (hQ : ∀ v h₀ h₁ h' tk, (∀ b o, s.heap.get? b = some o → h₀.get? b = some o) → (∀ b o, h₀.get? b = some o → h₁.get? b = some o) → g.objs.size ≤ h₀.objs.size → R v h₀ h₁ → Heap.SameBut x h₁ h' →
      h'.get? x = some (foldObj w 65 dx f (kids ++ [(y, t, v)]) (n + 1)) → Q v { s with heap := h', toks := tk })
   , wpAny (model PySem.Challenge.rw_il0142_02.row.prog w) (Ar dp un fr gd) (call (.ref 55) [.ref x, .str y t]) Q E s := by
  k_fill
  intro w dp un fr gd s Q E x dx f of fd kids n y t p loose mg mb g R X T U hdp hu hf hfd hxs hn hz hcall hQ
  refine' enterAt [(Str.ofString "self", .ref x), (Str.ofString "key", .str y t)] ?X ?T ?U ?ho ?hcd ?hroom ?hbind ?hloc ?_ ?hco ?hgen ?hk ?hcell
  case X => assumption
  case T => assumption
  case U => assumption
  case ho => k_is
  case hcd => k_is
  case hroom => exact roomE (by assumption)
  case hbind => exact BindsTo.of_eq rfl
  case hloc => exact locs rfl
  case hco => exact rfl
  case hgen => exact rfl
  case hk => exact rfl
  case hcell => decide
  intro L' h₁ F' N' k₁
  try dsimp only
  refine ks_wpAt_execs_cons (ks_wpAt_Return_some ?_)
  refine at_Call ?_
  refine at_Call ?_
  refine at_val (a := .builtin "getattr") (s' := { s with heap := h₁, toks := s.toks + 2 }) (by k_steps) ?_
  refine at_callWith_builtin rfl ?_
  simp only [starEach, backTo, List.map_cons, List.map_nil, Bool.false_eq_true, if_false]
  refine at_evalArgs_plain (at_spliced_cons ?_)
  refine at_val (a := .ref x) (s' := { s with heap := h₁, toks := s.toks + 2 }) (by k_steps) ?_
  refine at_spliced_cons ?_
  refine at_val (a := .str "_frozen" (s.toks + 2)) (s' := { s with heap := h₁, toks := s.toks + 2 + 1 }) (by k_steps) ?_
  refine at_spliced_cons ?_
  refine at_Attribute ?_
  have I1 : InstAt h₁ x (foldObj w 65 dx f kids n) 65 (some bag0) := ⟨(N' _ (.head _)).1, rfl, rfl, (N' _ (.tail _ (.head _))).1⟩
  refine super_read (s := { s with heap := h₁, toks := s.toks + 2 + 1 }) F' X N' T (by k_is) (by rfl) (by rfl) I1 (by k_is) (by rfl) (by first | rfl | decide +kernel) (by k_is) (by k_is) (by k_is) (by k_is) (by decide) (by rfl) (by rfl) (by rfl) (by rfl) (by decide +kernel) (by first | boot_by_name | rfl) (fun so h₂ F₂ N₂ k₂ => ?_)
  have X2 : (K2 w.params).In h₂ := X.keeps F₂.keep
  have I2 : InstAt h₂ x (foldObj w 65 dx f kids n) 65 (some bag0) := ⟨k₂ _ _ I1.at_, rfl, rfl, k₂ _ _ I1.dict⟩
  have hx65 : x ≠ 65 := fun e => by
    have := (N' _ (.head _)).2.2
    rw [show (x, foldObj w 65 dx f kids n).1 = x from rfl, e] at this
    obtain ⟨oC, cd, e1, _⟩ := fd_cls (P := w.params)
    rw [X _ _ e1] at this
    cases this
  have LC : ∀ h, (K2 w.params).In h → Looks (model PySem.Challenge.rw_il0142_02.row.prog w) h (mroOf (.ref 65)) (.ref 65 :: bmD) := fun h Xh => by
    have hc : ∃ cd, clsIn (K2 w.params) 65 = some cd ∧ cd.mro = .ref 65 :: bmD := ⟨_, by k_is, rfl⟩
    obtain ⟨cd, hc, hm⟩ := hc
    rw [← hm]
    exact fun A Q E s k q => wpAny_bind ((looks_clsIn Xh hc) A _ E s k (wpAny_pure q))
  refine attr_super_miss (N₂ _ (.head _)).1 (looks_opaque X2 (by k_is)) (LC _ X2) I2.at_ rfl (looks_mroIn X2 (by k_is)) hx65 ?_
  refine let_go (fun _ _ e => by cases e) ?_
  refine wpAt_of_wpAny (Calls.spliced_nil ?_)
  have k₃ : ∀ b o, h₂.get? b = some o → (h₂.push (boundMiss x)).get? b = some o := fun b o e => Heap.get?_push_of_some _ e
  have hb₃ : (h₂.push (boundMiss x)).get? h₂.objs.size = some (boundMiss x) := Heap.get?_push_size _ rfl
  generalize h₂.push (boundMiss x) = h₃ at k₃ hb₃ ⊢
  generalize h₂.objs.size = b at hb₃ ⊢
  have X3 : (K2 w.params).In h₃ := X2.keeps k₃
  have I3 : InstAt h₃ x (foldObj w 65 dx f kids n) 65 (some bag0) := ⟨k₃ _ _ I2.at_, rfl, rfl, k₃ _ _ I2.dict⟩
  obtain ⟨oC, cd, e1, e2, e3, e4, e5⟩ := fd_cls (P := w.params)
  refine getattr_missing rfl X3 I3 (by k_is) (by k_is) (by k_is) (X3 _ _ e1) e2 e5 (by k_is) (by first | rfl | kernel_rfl) (fun h₄ tk₄ k₄ => ?_)
  have X4 := X3.keeps k₄
  have F₄ : Fr g L' h₄ _ := Fr.keeps F₂ (fun b o e => k₄ _ _ (k₃ _ _ e))
  refine wpAt_of_wpAny (callWith_bm (x := x) rfl ?_)
  simp only [starEach, backTo, List.map_cons, List.map_nil, Bool.false_eq_true, if_false]
  refine Calls.evalArgs_plain (Calls.spliced_cons ?_)
  refine PySem.wpAny_mono (Q := fun v s₁ => v = .str y t ∧ s₁ = { s with heap := h₄, toks := tk₄ }) (E := fun _ _ => False) (by k_steps) (fun v s₁ e => ?_) (fun _ _ e => e.elim)
  obtain ⟨rfl, rfl⟩ := e
  refine Calls.spliced_nil ?_
  refine ⟨k₄ _ _ hb₃, ?_⟩
  have kk : ∀ b o, s.heap.get? b = some o → h₄.get? b = some o := fun b o e => k₄ _ _ (k₃ _ _ (k₂ _ _ (k₁ _ _ e)))
  have I4 : InstAt h₄ x (foldObj w 65 dx f kids n) 65 (some bag0) := ⟨k₄ _ _ I3.at_, rfl, rfl, k₄ _ _ I3.dict⟩
  refine call_bm (s := { s with heap := h₄, toks := tk₄ }) (k₄ _ _ hb₃) (looks_mroIn X4 (by k_is)) (X4 _ _ e1) e2 e3 e4 I4.at_ (F₄.keep _ _ hf) hfd hxs hn (by rw [sizeLine_eq]; omega) ?_
  have hz4 : g.objs.size ≤ h₄.objs.size := Nat.le_of_lt (Nat.lt_of_le_of_lt F₄.above F₄.ns.lt)
  refine PySem.wpAny_mono (hcall _ h₄ tk₄ kk hz4) (fun v s₁ e => ?_) (fun _ _ e => e.elim)
  obtain ⟨h₅, tk₅, rfl, k₅, r⟩ := e
  exact ⟨k₅ _ _ I4.at_, looks_mroIn (X4.keeps k₅) (by k_is), fun h' hs hx' => hQ _ _ _ _ _ kk k₅ hz4 r hs hx'⟩
end
section
set_option maxHeartbeats 400000
section
variable {prog : Program} {w : World} {A : Around} {E : Value → Shared → Prop} {K : Frag} {x C : Addr} {ox : Obj} {od : Option Obj} {h : Heap} {g : Array GenState} {d : Drawn} {t : Nat} {os : OsState}
/-- a built-in of dict, called on an object of a subclass -/
theorem call_on {id owner n : String} {b : Builtin} {rest : List Value} {Q : Value → Shared → Prop} (I : InstAt h x ox C od) (hp : plainId id = true) (hb : entryFor table id = some b)
    (hk : builtinKind id = some .slot ∨ builtinKind id = some .method) (hs : splitId id = some (owner, n)) (ha : argsOk id ⟨.ref x :: rest, []⟩) (hsub : Looks (model prog w) h (isSubtype (.ref C) (.type owner)) true)
    (hq : wpAny (model prog w) A.in1 (b ⟨.ref x :: rest, []⟩) (fun fin s' => ∃ v, fin = .done (.ret v) ∧ Q v s') E ⟨h, g, d, t, os⟩) :
    wpAny (model prog w) A (call (.builtin id) (.ref x :: rest)) Q E ⟨h, g, d, t, os⟩ := by
  have L0 := I.type (M := model prog w)
  have hchk : ∀ {Q' : Unit → Shared → Prop} {E' : Value → Shared → Prop}, Q' () ⟨h, g, d, t, os⟩ → wpAny (model prog w) A.in1 (checkBuiltinCall id ⟨.ref x :: rest, []⟩) Q' E' ⟨h, g, d, t, os⟩ := fun {Q' E'} hq' => by
    have fin : wpAny (model prog w) A.in1 (match Manifest.signature? id with | some sig => Bind.checkArgs id sig ⟨.ref x :: rest, []⟩ | none => pure ()) Q' E' ⟨h, g, d, t, os⟩ := by
      cases hsig : Manifest.signature? id with
      | none => exact wpAny_pure hq'
      | some sig =>
        simp only [argsOk, hsig] at ha
        have h2 : Bind.checkArgs id sig ⟨.ref x :: rest, []⟩ = pure () := ha
        show wpAny (model prog w) A.in1 (Bind.checkArgs id sig ⟨.ref x :: rest, []⟩) Q' E' _
        rw [h2]; exact wpAny_pure hq'
    rcases hk with hk | hk
    all_goals
      simp only [checkBuiltinCall, hk, hs]
      refine wpAny_bind ?_
      unfold isInstance
      refine wpAny_bind (L0.at (hsub.at ?_))
      cases hsig : Manifest.signature? id with
      | none => exact wpAny_pure hq'
      | some sig =>
        rw [hsig] at fin
        exact fin
  refine wpAny_call (codeAny_call_builtin hp hb (hchk ?_))
  refine wpAny_mono hq (fun fin s' hf => ?_) fun _ _ z => z
  obtain ⟨v, rfl, hv⟩ := hf
  exact hv
theorem special_inst {name : Str} {r : Option Value} {Q : Option Value → Shared → Prop} (X : K.In h) (I : InstAt h x ox C od) (hf : findIn K (.ref C) name = some r) (hq : Q r ⟨h, g, d, t, os⟩) :
    wpAny (model prog w) A (specialOf (.ref x) name) Q E ⟨h, g, d, t, os⟩ := by
  have L0 := I.type (M := model prog w)
  have L1 := looks_findIn (M := model prog w) X hf
  unfold specialOf
  exact wpAny_bind (L0.at (L1.at hq))
theorem sp_getitem : splitId "dict.__getitem__" = some ("dict", "__getitem__") := by decide +kernel
theorem kd_getitem : builtinKind "dict.__getitem__" = some .method := by decide +kernel
theorem item_of {key : Value} {Q : Value → Shared → Prop} (X : K.In h) (I : InstAt h x ox C od) (hseq : Looks (model prog w) h (seqItemTypes.anyM fun n => isSubtype (.ref C) (.type n)) false)
    (hgi : findIn K (.ref C) "__getitem__" = some (some (.builtin "dict.__getitem__"))) (hsub : mroIn K C (.type "dict") = some true)
    (hq : wpAny (model prog w) A.in1 (Builtin.«dict.__getitem__» ⟨[.ref x, key], []⟩) (fun fin s' => ∃ v, fin = .done (.ret v) ∧ Q v s') E ⟨h, g, d, t, os⟩) :
    wpAny (model prog w) A (getItem (.ref x) key) Q E ⟨h, g, d, t, os⟩ := by
  have L0 := I.type (M := model prog w)
  have ha : argsOk "dict.__getitem__" ⟨.ref x :: [key], []⟩ := F.args_dict_getitem_2 _ _
  unfold getItem
  refine wpAny_holding (wpAny_bind ?_)
  unfold sequenceKey
  refine wpAny_bind (L0.at ?_)
  dsimp only
  refine wpAny_bind (hseq.at ?_)
  refine wpAny_pure (wpAny_bind ?_)
  unfold callSpecial?
  refine wpAny_bind (special_inst X I hgi ?_)
  refine wpAny_holding ?_
  refine wpAny_bind (wpAny_of_eq (F.slot_dict_getitem.bind _) ?_)
  refine wpAny_bind ?_
  refine call_on I F.slot_dict_getitem.plain F.entry_dict_getitem (.inr kd_getitem) sp_getitem ha (looks_mroIn X hsub) ?_
  refine wpAny_mono hq (fun fin s' hf => ?_) fun _ _ z => z
  obtain ⟨v, rfl, hv⟩ := hf
  exact ⟨v, rfl, wpAny_pure (wpAny_pure hv)⟩
end
section
variable {prog : Program} {w : World} {A : Around} {E : Value → Shared → Prop} {K : Frag} {x C : Addr} {od : Option Obj} {h : Heap} {g : Array GenState} {d : Drawn} {t : Nat} {os : OsState} {dx f : Addr} {kids : List Kid} {n : Nat} {y : Str} {tk : Tok}
theorem keyArg_ok {name : String} {M : Model} {s : Shared} {key : Value} {Q : Addr × Value → Shared → Prop} (hq : Q (x, key) s) : wpAny M A (Builtin.Dict.keyArg name ⟨[.ref x, key], []⟩) Q E s :=
  wpAny_of_eq (a := (x, key)) (by rfl) hq
theorem item_hit {v : Value} {Q : Value → Shared → Prop} (X : K.In h) (I : InstAt h x (foldObj w C dx f kids n) C od) (hseq : Looks (model prog w) h (seqItemTypes.anyM fun n => isSubtype (.ref C) (.type n)) false)
    (hgi : findIn K (.ref C) "__getitem__" = some (some (.builtin "dict.__getitem__"))) (hsub : mroIn K C (.type "dict") = some true)
    (hv : kfind kids y = some v) (hq : Q v ⟨h, g, d, t + 1, os⟩) :
    wpAny (model prog w) A (getItem (.ref x) (.str y tk)) Q E ⟨h, g, d, t, os⟩ := by
  refine item_of X I hseq hgi hsub ?_
  unfold Builtin.«dict.__getitem__»
  refine wpAny_bind (keyArg_ok ?_)
  dsimp only
  refine wpAny_bind (dget I.at_ rfl ?_)
  rw [hv]
  exact wpAny_pure ⟨_, rfl, hq⟩
theorem item_miss {fm : Addr} {om : Obj} {Q : Value → Shared → Prop} (X : K.In h) (I : InstAt h x (foldObj w C dx f kids n) C od) (hseq : Looks (model prog w) h (seqItemTypes.anyM fun n => isSubtype (.ref C) (.type n)) false)
    (hgi : findIn K (.ref C) "__getitem__" = some (some (.builtin "dict.__getitem__"))) (hsub : mroIn K C (.type "dict") = some true) (hxs : (x == sysModules) = false)
    (hm : findIn K (.ref C) "__missing__" = some (some (.ref fm))) (hfm : h.get? fm = some om) (hfc : om.cls = .type "function")
    (hv : kfind kids y = none) (hq : wpAny (model prog w) A.in1 (call (.ref fm) [.ref x, .str y tk]) (fun v s' => Q v s') E ⟨h, g, d, t + 1, os⟩) :
    wpAny (model prog w) A (getItem (.ref x) (.str y tk)) Q E ⟨h, g, d, t, os⟩ := by
  have L0 := I.type (M := model prog w)
  refine item_of X I hseq hgi hsub ?_
  unfold Builtin.«dict.__getitem__»
  refine wpAny_bind (keyArg_ok ?_)
  dsimp only
  refine wpAny_bind (dget I.at_ rfl ?_)
  rw [hv]
  dsimp only
  refine wpAny_bind (wpAny_missed_other hxs ?_)
  dsimp only
  refine wpAny_bind (L0.at ?_)
  rw [if_pos (show (Value.ref C != Value.type "dict") = true from rfl)]
  refine wpAny_bind ?_
  unfold callSpecial?
  refine wpAny_bind (special_inst X I hm ?_)
  refine wpAny_holding (wpAny_bind ?_)
  unfold bindSpecial
  refine wpAny_bind (wpAny_typeOf (T := "function") ⟨_, hfm, hfc⟩ ?_)
  rw [if_pos (by decide)]
  refine wpAny_pure (wpAny_bind (wpAny_mono hq (fun v s' hv' => ?_) fun _ _ z => z))
  refine wpAny_pure ?_
  dsimp only
  exact wpAny_bind (wpAny_rule (wpAny_pure ⟨_, rfl, hv'⟩))
theorem canon_ga : (Manifest.canonical "collections.defaultdict.__getattribute__" != "object.__getattribute__") = false := by decide +kernel
theorem get_method {ox : Obj} {bag : Obj} {name : Str} {id : String} {pl : Sem Bool} {Q : Value × List Value → Shared → Prop} (X : K.In h) (I : InstAt h x ox C (some bag)) (hdx : ox.dict = some dx) (hga : findIn K (.ref C) "__getattribute__" = some (some (.builtin "collections.defaultdict.__getattribute__")))
    (hk : findIn K (.ref C) "__getattr__" = some none) (hf : findIn K (.ref C) name = some (some (.builtin id))) (hty : typeOf (.builtin id) = pure (.type "method_descriptor")) (hb : lookIn name bag = some none)
    (hq : Q (.builtin id, [.ref x]) ⟨h, g, d, t, os⟩) : wpAny (model prog w) A (getMethod (.ref x) name pl) Q E ⟨h, g, d, t, os⟩ := by
  have hbag : h.get? dx = some bag := by have := I.dict; rw [hdx] at this; exact this
  unfold getMethod
  refine wpAny_bind (special_inst X I hga ?_)
  dsimp only
  simp only [canon_ga, Bool.false_eq_true, if_false]
  refine wpAny_bind (special_inst X I hk ?_)
  simp only [Option.isSome_none, Bool.false_eq_true, if_false]
  refine wpAny_bind (special_inst X I hf ?_)
  dsimp only
  refine wpAny_bind (wpAny_of_eq hty ?_)
  simp only [show (Value.type "method_descriptor" != Value.type "function" && Value.type "method_descriptor" != Value.type "method_descriptor" && Value.type "method_descriptor" != Value.type "wrapper_descriptor") = false by decide, Bool.false_eq_true, if_false]
  refine wpAny_bind (wpAny_loadPart_at I.at_ ?_)
  simp only [hdx]
  refine wpAny_bind ?_
  unfold nsGet
  refine wpAny_bind (wpAny_loadPart_at hbag ?_)
  rw [nsLook_of hb]
  refine wpAny_pure ?_
  simp only [Option.isSome_none, Bool.false_eq_true, if_false]
  exact wpAny_bind (wpAny_rule (wpAny_pure hq))
theorem sp_get : splitId "dict.get" = some ("dict", "get") := by decide +kernel
theorem kd_get : builtinKind "dict.get" = some .method := by decide +kernel
theorem sp_cont : splitId "dict.__contains__" = some ("dict", "__contains__") := by decide +kernel
theorem kd_cont : builtinKind "dict.__contains__" = some .method := by decide +kernel
theorem sp_len : splitId "dict.__len__" = some ("dict", "__len__") := by decide +kernel
theorem kd_len : builtinKind "dict.__len__" = some .slot := by decide +kernel
theorem fold_get {Q : Value → Shared → Prop} (X : K.In h) (I : InstAt h x (foldObj w C dx f kids n) C od) (hsub : mroIn K C (.type "dict") = some true) (hod : mroIn K C (.type "collections.OrderedDict") = some false) (hxs : (x == sysModules) = false)
    (hq : Q ((kfind kids y).getD .none) ⟨h, g, d, t + 1, os⟩) :
    wpAny (model prog w) A (call (.builtin "dict.get") [.ref x, .str y tk]) Q E ⟨h, g, d, t, os⟩ := by
  have L0 := I.type (M := model prog w)
  have L4 := looks_mroIn (M := model prog w) X hod
  have ha : argsOk "dict.get" ⟨.ref x :: [.str y tk], []⟩ := F.args_dict_get_2 _ _
  refine call_on I F.slot_dict_get.plain F.entry_dict_get (.inr kd_get) sp_get ha (looks_mroIn X hsub) ?_
  unfold Builtin.«dict.get» Builtin.Dict.keyAndDefault
  repeat (any_goals (first | assumption | refine L0.at ?_ | refine L4.at ?_ | (with_reducible refine dget I.at_ rfl ?_) | (with_reducible refine wpAny_missed_other hxs ?_) | wp_step))
  cases hv : kfind kids y with
  | some v => rw [hv] at hq; exact wpAny_pure ⟨_, rfl, hq⟩
  | none => rw [hv] at hq; exact wpAny_bind (wpAny_missed_other hxs (wpAny_pure ⟨_, rfl, hq⟩))
theorem fold_in {Q : Value → Shared → Prop} (X : K.In h) (I : InstAt h x (foldObj w C dx f kids n) C od) (hsub : mroIn K C (.type "dict") = some true) (hxs : (x == sysModules) = false)
    (hq : Q (.bool (kfind kids y).isSome) ⟨h, g, d, t + 1, os⟩) :
    wpAny (model prog w) A (call (.builtin "dict.__contains__") [.ref x, .str y tk]) Q E ⟨h, g, d, t, os⟩ := by
  have ha : argsOk "dict.__contains__" ⟨.ref x :: [.str y tk], []⟩ := F.args_dict_contains_2 _ _
  refine call_on I F.slot_dict_contains.plain F.entry_dict_contains (.inr kd_cont) sp_cont ha (looks_mroIn X hsub) ?_
  unfold Builtin.«dict.__contains__»
  refine wpAny_bind (keyArg_ok ?_)
  dsimp only
  refine wpAny_bind (dget I.at_ rfl ?_)
  cases hv : kfind kids y with
  | some v => rw [hv] at hq; exact wpAny_pure ⟨_, rfl, hq⟩
  | none => rw [hv] at hq; exact wpAny_bind (wpAny_pendingKey_other hxs (wpAny_pure ⟨_, rfl, hq⟩))
theorem fold_len {Q : Value → Shared → Prop} (X : K.In h) (I : InstAt h x (foldObj w C dx f kids n) C od) (hln : findIn K (.ref C) "__len__" = some (some (.builtin "dict.__len__"))) (hsub : mroIn K C (.type "dict") = some true) (hod : mroIn K C (.type "collections.OrderedDict") = some false) (hxs : (x == sysModules) = false)
    (hz : kids.length ≤ 1000000) (hq : ∀ t1 t2, Q (.int kids.length t1) ⟨h, g, d, t2, os⟩) :
    wpAny (model prog w) A (call (.builtin "len") [.ref x]) Q E ⟨h, g, d, t, os⟩ := by
  have L0 := I.type (M := model prog w)
  have L4 := looks_mroIn (M := model prog w) X hod
  have ha : argsOk "dict.__len__" ⟨.ref x :: [], []⟩ := F.args_dict_len_1 _
  refine call_function_entry kind_len plain_len entry_len (args_len1 _) ?_
  unfold Builtin.«len»
  refine wpAny_bind (m := oneArg "len" _) (wpAny_pure ?_)
  refine wpAny_bind ?_
  unfold callSpecial?
  refine wpAny_bind (special_inst X I hln ?_)
  refine wpAny_holding (wpAny_bind (wpAny_of_eq (F.slot_dict_len.bind _) ?_))
  refine wpAny_bind ?_
  refine call_on I F.slot_dict_len.plain F.entry_dict_len (.inl kd_len) sp_len ha (looks_mroIn X hsub) ?_
  unfold Builtin.«dict.__len__»
  repeat (any_goals (first | assumption | refine L0.at ?_ | refine L4.at ?_ | (with_reducible refine wpAny_loadPart_at I.at_ ?_) | (with_reducible refine wpAny_pendingCount_other hxs ?_) | wp_step))
  refine ⟨_, rfl, wpAny_pure ?_⟩
  have e : ((esOf w kids).size : Int) + ((0 : Nat) : Int) = kids.length := by unfold esOf; simp
  rw [e]
  refine wpAny_bind (wpAny_holding (wpAny_pure ?_))
  refine wpAny_bind (wpAny_letGo ?_)
  have h1 : ¬ ((kids.length : Int) < 0) := by omega
  have h2 : ¬ ((kids.length : Int) ≥ 2 ^ 63) := by omega
  simp only [h1, h2, if_false]
  exact wpAny_bind (wpAny_mkInt (wpAny_pure ⟨_, rfl, hq _ _⟩))
end
end
section
set_option maxHeartbeats 400000
noncomputable def kerase (kids : List Kid) (y : Str) : List Kid := kids.eraseP fun k => decide (k.1 = y)
theorem kfind_idx {kids : List Kid} {y : Str} {v : Value} (h : kfind kids y = some v) : ∃ i k, kids.findIdx? (fun k => decide (k.1 = y)) = some i ∧ kids[i]? = some k ∧ k.2.2 = v ∧ k.1 = y ∧ kids.eraseIdx i = kerase kids y := by
  induction kids with
  | nil => cases h
  | cons a r ih =>
    unfold kfind at h
    rw [List.find?_cons] at h
    cases e : decide (a.1 = y) with
    | true =>
      rw [e] at h
      have h1 : a.2.2 = v := Option.some.inj h
      refine ⟨0, a, ?_, rfl, h1, of_decide_eq_true e, ?_⟩
      · rw [List.findIdx?_cons, if_pos e]
      · unfold kerase; simp only [List.eraseP_cons, e]; rfl
    | false =>
      rw [e] at h
      obtain ⟨i, k, h1, h2, h3, h4, h5⟩ := ih h
      refine ⟨i + 1, k, ?_, h2, h3, h4, ?_⟩
      · rw [List.findIdx?_cons, if_neg (by rw [e]; simp), h1]; rfl
      · unfold kerase at h5 ⊢
        simp only [List.eraseP_cons, e]
        rw [List.eraseIdx_cons_succ, h5]; rfl
theorem map_erase {α β : Type} (f : α → β) : ∀ (l : List α) (i : Nat), (l.map f).eraseIdx i = (l.eraseIdx i).map f
  | [], _ => rfl
  | _ :: _, 0 => rfl
  | a :: r, i + 1 => by simp only [List.map_cons, List.eraseIdx_cons_succ, map_erase f r i]
theorem esOf_erase (w : World) (kids : List Kid) (i : Nat) : (esOf w kids).eraseIdxIfInBounds i = esOf w (kids.eraseIdx i) := by
  unfold esOf
  rw [Array.eraseIdxIfInBounds]
  split
  · rename_i hlt
    apply Array.toList_inj.mp
    rw [Array.toList_eraseIdx]
    simp only
    exact map_erase _ _ _
  · rename_i hlt
    rw [List.eraseIdx_of_length_le (by simpa using hlt)]
theorem esOf_get (w : World) (kids : List Kid) (i : Nat) : (esOf w kids)[i]? = (kids[i]?).map (entOf w) := by unfold esOf; simp
theorem sp_pop : splitId "dict.pop" = some ("dict", "pop") := by decide +kernel
theorem kd_pop : builtinKind "dict.pop" = some .method := by decide +kernel
section
variable {prog : Program} {w : World} {A : Around} {E : Value → Shared → Prop} {K : Frag} {x C : Addr} {od : Option Obj} {h : Heap} {g : Array GenState} {d : Drawn} {t : Nat} {os : OsState} {dx f : Addr} {kids : List Kid} {n : Nat} {y : Str} {tk : Tok}
theorem take_out {v : Value} {Q : Option DictEntry → Shared → Prop} (hx : h.get? x = some (foldObj w C dx f kids n)) (hv : kfind kids y = some v) (hz : kids.length ≤ 1000000)
    (hq : ∀ e h', e.val = v → Heap.SameBut x h h' → h'.get? x = some (foldObj w C dx f (kerase kids y) (n + 1)) → Q (some e) ⟨h', g, d, t + 1, os⟩) :
    wpAny (model prog w) A (Builtin.Dict.takeOut x (.str y tk)) Q E ⟨h, g, d, t, os⟩ := by
  have hkey := strKind_is prog w y tk
  obtain ⟨i, k, h1, h2, h3, h4, h5⟩ := kfind_idx hv
  unfold Builtin.Dict.takeOut
  refine wpAny_holding ?_
  refine wpAny_bind ((strKind prog w).pyHash hkey ?_)
  refine wpAny_bind (wpAny_dictFind_of (s := ⟨h, g, d, t + 1, os⟩) hkey hx rfl (keysOf_es kids) ?_)
  rw [idx_es, h1]
  dsimp only
  refine wpAny_bind (wpAny_dictEntries (s := ⟨h, g, d, t + 1, os⟩) hx rfl ?_)
  rw [esOf_get, h2]
  show wpAny _ _ (updateDictKeys x _ _ >>= _) _ _ _
  have hsz : (esOf w kids).size = kids.length := by unfold esOf; simp
  refine wpAny_bind (wpAny_updateDictKeys (s := ⟨h, g, d, t + 1, os⟩) (hz := by rw [hsz, sizeLine_eq]; omega) (hf := by rw [esOf_erase]; unfold esOf; simp; have := List.length_eraseIdx_le kids i; omega) hx rfl (wpAny_pure ?_))
  refine hq _ _ h3 (Heap.SameBut.update ..) ?_
  rw [Heap.get?_update_self _ hx rfl]
  have e : Obj.mapDictKeys (fun x => x.eraseIdxIfInBounds i) (foldObj w C dx f kids n) = { cls := .ref C, dict := some dx, data := .dict ((esOf w kids).eraseIdxIfInBounds i) (n + 1), slots := #[some (.ref f)] } := rfl
  rw [e, esOf_erase, h5]
theorem popKey_ok {M : Model} {key : Value} {Q : Addr × Value × Option Value → Shared → Prop} (L0 : Looks M h (typeOf (.ref x)) (.ref C)) (L4 : Looks M h (isSubtype (.ref C) (.type "collections.OrderedDict")) false) (hq : Q (x, key, none) ⟨h, g, d, t, os⟩) :
    wpAny M A (Builtin.Dict.keyAndDefault "pop" ⟨[.ref x, key], []⟩) Q E ⟨h, g, d, t, os⟩ := by
  unfold Builtin.Dict.keyAndDefault
  repeat (any_goals (first | assumption | refine L0.at ?_ | refine L4.at ?_ | wp_step))
theorem fold_pop {v : Value} {Q : Value → Shared → Prop} (X : K.In h) (I : InstAt h x (foldObj w C dx f kids n) C od) (hsub : mroIn K C (.type "dict") = some true) (hod : mroIn K C (.type "collections.OrderedDict") = some false)
    (hv : kfind kids y = some v) (hz : kids.length ≤ 1000000)
    (hq : ∀ h', Heap.SameBut x h h' → h'.get? x = some (foldObj w C dx f (kerase kids y) (n + 1)) → Q v ⟨h', g, d, t + 1, os⟩) :
    wpAny (model prog w) A (call (.builtin "dict.pop") [.ref x, .str y tk]) Q E ⟨h, g, d, t, os⟩ := by
  have L0 := I.type (M := model prog w)
  have L4 := looks_mroIn (M := model prog w) X hod
  have ha : argsOk "dict.pop" ⟨.ref x :: [.str y tk], []⟩ := F.args_dict_pop_2 _ _
  refine call_on I F.slot_dict_pop.plain F.entry_dict_pop (.inr kd_pop) sp_pop ha (looks_mroIn X hsub) ?_
  unfold Builtin.«dict.pop»
  refine wpAny_bind (popKey_ok L0 L4 ?_)
  dsimp only
  refine wpAny_bind (wpAny_of_eq (a := false) rfl ?_)
  simp only [Bool.false_eq_true, if_false]
  refine wpAny_bind (take_out I.at_ hv hz fun e h' he hs hx' => ?_)
  simp only [Option.isNone_some, Bool.false_eq_true, if_false]
  refine wpAny_bind (wpAny_letGo ?_)
  rw [he]
  exact wpAny_pure ⟨_, rfl, hq h' hs hx'⟩
end
end
section
set_option maxHeartbeats 400000
/-- a call of a def with one cell, seen from a smaller ground -/
theorem enterC {prog : Program} {w : World} {A : Around} {s : Shared} {K : Frag} {Q E : Value → Shared → Prop} {g : Heap} {news : List (Addr × Obj)}
    {p : Program} {loose : List Str} {mg mb : Str → Option Value}
    {name qual : Str} {params : Arguments} {body : List Stmt} {scope : Scope} {dV kV doc pm cdv ct oc : Value} {an od : Option Addr} {osl : Array (Option Value)} {f : Addr} {pos : List Value} (binds : List (Str × Value)) (nc : Str) (vc : Value)
    (X : K.In g) (T : TopRead p loose mg mb g) (U : Under g s.heap news)
    (ho : K.lookup f = some ⟨oc, od, .func (fnOf name qual params body scope dV kV doc pm an cdv ct), osl⟩) (hcd : codeIn K cdv qual = true) (hroom : A.depth < recursionLimit)
    (hbind : bindArgs (fnOf name qual params body scope dV kV doc pm an cdv ct) ⟨pos, []⟩ = pure binds)
    (hcs : ∀ k, cellsFrom k scope.names [] = [(nc, k)])
    (hkind : ∀ x ∈ binds, scope.names.lookup x.1 = some .local ∨ (scope.names.lookup x.1 = some .cell ∧ x.1 = nc))
    (hval : ∀ L', bindC (envX qual scope L' f cdv [(nc, L' + 1)]).kindOf binds (fun _ => none) nc = some vc)
    (h : ∀ L' c h₁ tk o, Fr g L' h₁ (bindL (envX qual scope L' f cdv [(nc, c)]).kindOf binds fun _ => none) → News g L' h₁ ((c, o) :: news) → o.data = .cell (some vc) → (∀ b o, s.heap.get? b = some o → h₁.get? b = some o) → s.heap.get? c = none →
      wpAny (model prog w) (A.deeper (envX qual scope L' f cdv [(nc, c)])) (execs body (envX qual scope L' f cdv [(nc, c)]))
        (fun fl s' => Q (match fl with | .ret v => v | _ => .none) s')
        (fun _ _ => False)
        { s with heap := h₁, toks := tk })
    (hco : scope.isCoroutine = false) (hgen : scope.isGenerator = false) (hk : scope.kind = .function) : wpAny (model prog w) A (PySem.call (.ref f) pos []) Q E s := by
  refine wpAny_call ?_
  refine codeAny_call_cells (fd := fnOf name qual params body scope dV kV doc pm an cdv ct) (body := body) hroom ((X.keeps U.kg) _ _ ho) rfl (T.nolimit.keeps U.kg) (codeRec_of (X.keeps U.kg) hcd) rfl hbind rfl (fun x hx => ?_) (fun s₁ Y => ?_) hco hgen hk
  · rcases hkind x hx with e | ⟨e, e2⟩
    · exact .inl e
    · refine .inr ⟨e, ?_⟩
      show ((cellsFrom (s.heap.objs.size + 1) scope.names []).lookup x.1).isSome = true
      rw [hcs, e2]; simp
  · obtain ⟨h₁, tk, rfl, _⟩ := Y.done
    have e : callEnvC (fnOf name qual params body scope dV kV doc pm an cdv ct) s.heap.objs.size f = envX qual scope s.heap.objs.size f cdv [(nc, s.heap.objs.size + 1)] := by
      unfold callEnvC newEnv
      rw [show (fnOf name qual params body scope dV kV doc pm an cdv ct).scope = scope from rfl, hcs]
    rw [e] at Y ⊢
    obtain ⟨o, hoc, hod⟩ := Y.cell nc (s.heap.objs.size + 1) (by simp)
    rw [hval] at hod
    have kp := Y.toInCall.keep
    have hfr : s.heap.get? (s.heap.objs.size + 1) = none := Heap.get?_none_of_le (Nat.le_succ _)
    refine wpAny_mono (h s.heap.objs.size (s.heap.objs.size + 1) h₁ tk o ⟨Y.toInCall.ns, fun b o e => kp b o (U.kg b o e), U.sz⟩ (fun p hp => ?_) hod kp hfr) (fun fl s' hl => hl) fun _ _ y => y.elim
    rcases List.mem_cons.mp hp with rfl | hp
    · refine ⟨hoc, Nat.ne_of_gt (Nat.lt_succ_self _), ?_⟩
      cases q : g.get? (s.heap.objs.size + 1) with
      | none => rfl
      | some o' => rw [U.kg _ _ q] at hfr; cases hfr
    · exact ⟨kp _ _ (U.at_ p hp).1, Nat.ne_of_lt (Heap.lt_size (U.at_ p hp).1), (U.at_ p hp).2⟩
end
section
set_option maxHeartbeats 400000
theorem own_sa1 : classOwn (.type "collections.defaultdict") "__setattr__" = pure none := by
  show (pure (builtinOwn "collections.defaultdict" "__setattr__") : Sem _) = _
  rw [builtinOwn_eq_fast]; kernel_rfl
theorem own_sa2 : classOwn (.type "dict") "__setattr__" = pure none := by
  show (pure (builtinOwn "dict" "__setattr__") : Sem _) = _
  rw [builtinOwn_eq_fast]; kernel_rfl
theorem slot_sa : Slot "object" "__setattr__" "object.__setattr__" :=
  .of (owner := "object") (n := "__setattr__") (by rw [typeLookup_type, builtinLookup_eq_fast]; kernel_rfl) (by decide +kernel) (by decide +kernel) (by decide +kernel)
    (by first | exact .inl (by decide +kernel) | exact .inr (by decide +kernel)) (by rw [isSubtype_type]; kernel_rfl)
theorem en_sa : entryFor table "object.__setattr__" = some Builtin.«object.__setattr__» := entryFor_of_tree (by kernel_rfl)
theorem ar_sa (a b c : Value) : argsOk "object.__setattr__" ⟨[a, b, c], []⟩ := by unfold argsOk; kernel_rfl
theorem kd_sa : builtinKind "object.__setattr__" = some .slot := by decide +kernel
theorem sp_sa : splitId "object.__setattr__" = some ("object", "__setattr__") := by decide +kernel
section
variable {prog : Program} {w : World} {A : Around} {E : Value → Shared → Prop} {K : Frag} {x C : Addr} {ox : Obj} {od : Option Obj} {h : Heap} {g : Array GenState} {d : Drawn} {t : Nat} {os : OsState} {dx : Addr}
theorem refuse_ok {M : Model} {Q : Unit → Shared → Prop} (L0 : Looks M h (typeOf (.ref x)) (.ref C)) (LC : Looks M h (mroOf (.ref C)) (.ref C :: bmD)) (hq : Q () ⟨h, g, d, t, os⟩) :
    wpAny M A (Builtin.ObjectAttr.refuseIfOverridden (.ref x) "__setattr__") Q E ⟨h, g, d, t, os⟩ := by
  have o1 := own_sa1
  have o2 := own_sa2
  have o3 := F.own_object_setattr
  unfold Builtin.ObjectAttr.refuseIfOverridden
  refine wpAny_bind (L0.at ?_)
  refine wpAny_bind (LC.at ?_)
  have n1 : (("collections.defaultdict" : String) == "_thread._local") = false := by decide
  have n2 : (("collections.defaultdict" : String) == "_pickle.Pickler" || ("collections.defaultdict" : String) == "_pickle.Unpickler") = false := by decide
  have n3 : (("dict" : String) == "_thread._local") = false := by decide
  have n4 : (("dict" : String) == "_pickle.Pickler" || ("dict" : String) == "_pickle.Unpickler") = false := by decide
  have n5 : (("object" : String) == "_thread._local") = false := by decide
  have n6 : (("object" : String) == "_pickle.Pickler" || ("object" : String) == "_pickle.Unpickler") = false := by decide
  simp only [List.forIn_cons, List.forIn_nil, o1, o2, o3, n1, n2, n3, n4, n5, n6, pure_bind, Bool.false_eq_true, if_false, Option.isSome_none, Option.isSome_some, if_true]
  have hi : (!Builtin.ObjectAttr.isObjects "object" (Str.ofString "__setattr__").toString) = false := by decide +kernel
  simp only [hi, Bool.false_eq_true, if_false, pure_bind]
  exact wpAny_pure hq
noncomputable def bagF (w : World) (tk : Tok) (v : Value) : Obj := { cls := .type "dict", data := .dict #[{ hash := PyData.keyHash w.params (Str.ofString "_frozen"), key := .str (Str.ofString "_frozen") tk, val := v }] 1 }
theorem bagF_eq (w : World) (tk : Tok) (v : Value) : Obj.putName (Str.ofString "_frozen") (PyData.keyHash w.params (Str.ofString "_frozen")) (.str (Str.ofString "_frozen") tk) v bag0 = bagF w tk v := by rfl
theorem set_frozen {v : Value} {cd : ClassData} {Q : Unit → Shared → Prop} (X : K.In h) (I : InstAt h x ox C (some bag0)) (hdx : ox.dict = some dx)
    (hsa : findIn K (.ref C) "__setattr__" = some (some (.builtin "object.__setattr__"))) (hfz : findIn K (.ref C) "_frozen" = some none) (hin : mroIn K C (.type "object") = some true)
    (LC : Looks (model prog w) h (mroOf (.ref C)) (.ref C :: bmD)) (hc : clsIn K C = some cd) (hh : cd.hasDict = true)
    (hq : ∀ h' tk, Heap.SameBut dx h h' → h'.get? dx = some (bagF w (t + 1) v) → Q () ⟨h', g, d, tk, os⟩) :
    wpAny (model prog w) A (setAttr (.ref x) "_frozen" v) Q E ⟨h, g, d, t, os⟩ := by
  have L0 := I.type (M := model prog w)
  have L1 := looks_findIn (M := model prog w) X hfz
  have hbag : h.get? dx = some bag0 := by have := I.dict; rw [hdx] at this; exact this
  have ha : ∀ tk, argsOk "object.__setattr__" ⟨.ref x :: [.str "_frozen" tk, v], []⟩ := fun _ => ar_sa _ _ _
  unfold setAttr
  refine wpAny_bind (wpAny_mkText ?_)
  refine wpAny_bind ?_
  unfold callSpecial?
  refine wpAny_bind (special_inst X I hsa ?_)
  refine wpAny_holding (wpAny_bind (wpAny_of_eq (slot_sa.bind _) ?_))
  refine wpAny_bind ?_
  refine call_on I slot_sa.plain en_sa (.inl kd_sa) sp_sa (ha _) (looks_mroIn X hin) ?_
  unfold Builtin.«object.__setattr__»
  dsimp only
  refine wpAny_bind (refuse_ok L0 LC ?_)
  refine wpAny_bind (wpAny_of_eq (a := ("_frozen" : Str)) (by first | rfl | kernel_rfl) ?_)
  refine wpAny_bind (L0.at ?_)
  refine wpAny_bind (L1.at ?_)
  refine wpAny_bind (wpAny_of_eq (a := none) rfl ?_)
  dsimp only
  unfold Builtin.ObjectAttr.storeInOwnDict
  refine wpAny_bind (wpAny_of_eq (a := ()) rfl ?_)
  refine wpAny_bind ?_
  unfold Builtin.ObjectAttr.ownDictForStores
  dsimp only
  unfold instanceDict
  refine wpAny_bind (wpAny_loadPart_at I.at_ ?_)
  rw [I.cls]
  dsimp only
  refine wpAny_bind ((looks_clsIn X hc).at ?_)
  simp only [hh, hdx]
  refine wpAny_pure (a := some dx) ?_
  dsimp only
  unfold Builtin.ObjectAttr.storeInDict
  refine wpAny_bind (wpAny_of_eq (a := ()) rfl ?_)
  refine wpAny_bind ?_
  unfold nsSet
  refine wpAny_bind (wpAny_bind (wpAny_askSetting (wpAny_pure (wpAny_bind (wpAny_mkText (wpAny_bind (wpAny_loadPart hbag ?_)))))))
  dsimp only
  rw [show aRefKeyMayBeTheName (Str.ofString "_frozen") #[] = false from by rfl]
  refine wpAny_updatePart hbag ?_
  have hD : (h.update dx (Obj.putName (Str.ofString "_frozen") (PyData.keyHash w.params (Str.ofString "_frozen")) (.str (Str.ofString "_frozen") (t + 1)) v)).get? dx = some (bagF w (t + 1) v) := by
    rw [Heap.get?_update_self _ hbag rfl, bagF_eq]
  refine wpAny_bind (wpAny_lookBehind hD (pastItsLine_dict (by rw [sizeLine_eq]; simp)) ?_)
  exact wpAny_pure ⟨_, rfl, wpAny_pure (wpAny_pure (hq _ _ (Heap.SameBut.update ..) hD))⟩
end
end
section
set_option maxHeartbeats 400000
noncomputable abbrev dfId : String := "collections.defaultdict.default_factory"
theorem ty_df : typeOf (.builtin dfId) = pure (.type "member_descriptor") := by show builtinType _ = _; rw [builtinType_eq_fast]; kernel_rfl
theorem lk_mem_get : typeLookup (.type "member_descriptor") "__get__" = pure (some (.builtin "member_descriptor.__get__")) := by rw [typeLookup_type, builtinLookup_eq_fast]; kernel_rfl
theorem slot_mem_get : Slot "member_descriptor" "__get__" "member_descriptor.__get__" :=
  .of (owner := "member_descriptor") (n := "__get__") lk_mem_get (by decide +kernel) (by decide +kernel) (by decide +kernel)
    (by first | exact .inl (by decide +kernel) | exact .inr (by decide +kernel)) (by rw [isSubtype_type]; kernel_rfl)
theorem en_mem_get : entryFor table "member_descriptor.__get__" = some Builtin.«member_descriptor.__get__» := entryFor_of_tree (by kernel_rfl)
theorem ar_mem_get (a b c : Value) : argsOk "member_descriptor.__get__" ⟨[a, b, c], []⟩ := by unfold argsOk; kernel_rfl
theorem en_df : entryFor table dfId = some Builtin.«collections.defaultdict.default_factory» := entryFor_of_tree (by kernel_rfl)
theorem pl_df : plainId dfId = true := by decide +kernel
section
variable {prog : Program} {w : World} {A : Around} {E : Value → Shared → Prop} {K : Frag} {x C dx f : Addr} {od : Option Obj} {h : Heap} {g : Array GenState} {d : Drawn} {t : Nat} {os : OsState} {kids : List Kid} {n : Nat}
theorem run_mem_get {P : Fin → Shared → Prop} (I : InstAt h x (foldObj w C dx f kids n) C od) (hsub : Looks (model prog w) h (isSubtype (.ref C) (.type "collections.defaultdict")) true)
    (hq : P (.again (.builtin dfId ⟨[.ref x], []⟩)) ⟨h, g, d, t, os⟩) :
    wpAny (model prog w) A (Builtin.«member_descriptor.__get__» ⟨[.builtin dfId, .ref x, .ref C], []⟩) P E ⟨h, g, d, t, os⟩ := by
  have L0 := I.type (M := model prog w)
  unfold Builtin.«member_descriptor.__get__» Builtin.Getset_descriptor.descrGet
  refine wpAny_bind (wpAny_of_eq (a := (.builtin dfId, some (.ref x), some (.ref C))) (by first | rfl | kernel_rfl) ?_)
  dsimp only
  unfold Builtin.Getset_descriptor.descrGetter
  refine wpAny_bind ?_
  unfold Builtin.Getset_descriptor.descrCheckInstance
  refine wpAny_bind (wpAny_of_eq (a := (("default_factory" : Str), .type "collections.defaultdict")) (by first | rfl | kernel_rfl) ?_)
  dsimp only
  refine wpAny_bind ?_
  unfold isInstance
  refine wpAny_bind (L0.at (hsub.at ?_))
  simp only [Bool.not_true, Bool.false_eq_true, if_false]
  exact wpAny_pure (wpAny_pure hq)
theorem code_df {R : Result → Shared → Prop} (hx : h.get? x = some (foldObj w C dx f kids n)) (hq : R (.ok (.ret (.ref f))) ⟨h, g, d, t, os⟩) :
    codeAny (model prog w) A (.builtin dfId ⟨[.ref x], []⟩) R ⟨h, g, d, t, os⟩ := by
  refine codeAny_builtin en_df ?_
  unfold Builtin.«collections.defaultdict.default_factory» Builtin.Collections_defaultdict.factory? slotAt
  dsimp only
  refine wpAny_bind (wpAny_bind (wpAny_bind (wpAny_loadPart_at hx (wpAny_pure ?_))))
  exact wpAny_pure (wpAny_pure hq)
theorem call_mem_get {Q : Value → Shared → Prop} (I : InstAt h x (foldObj w C dx f kids n) C od) (hsub : Looks (model prog w) h (isSubtype (.ref C) (.type "collections.defaultdict")) true)
    (hq : Q (.ref f) ⟨h, g, d, t, os⟩) :
    wpAny (model prog w) A (call (.builtin "member_descriptor.__get__") [.builtin dfId, .ref x, .ref C]) Q E ⟨h, g, d, t, os⟩ := by
  refine wpAny_call (codeAny_call_builtin slot_mem_get.plain en_mem_get (slot_mem_get.check _ _ _ _ _ _ _ _ ty_df (ar_mem_get _ _ _) (run_mem_get I hsub ?_)))
  exact ⟨Code.quiet_builtin _ (by decide +kernel), code_df I.at_ hq⟩
theorem attr_df {od : Option Obj} {Q : Value → Shared → Prop} (X : K.In h) (I : InstAt h x (foldObj w C dx f kids n) C od) (hga : findIn K (.ref C) "__getattribute__" = some (some (.builtin "collections.defaultdict.__getattribute__")))
    (hk : findIn K (.ref C) "__getattr__" = some none) (hin : mroIn K C (.type "collections.defaultdict") = some true)
    (hf : findObj K C od "default_factory" = some (.bind (.builtin "member_descriptor.__get__") (.builtin dfId))) (hq : Q (.ref f) ⟨h, g, d, t + 1, os⟩) :
    wpAny (model prog w) A (getAttr (.ref x) "default_factory" false) Q E ⟨h, g, d, t, os⟩ := by
  have L0 := I.type (M := model prog w)
  have L1 := looks_findIn (M := model prog w) X hga
  have L2 := looks_find (M := model prog w) X I hf
  have L3 := looks_findIn (M := model prog w) X hk
  have L4 := looks_mroIn (M := model prog w) X hin
  unfold getAttr getAttrBy
  refine wpAny_bind (wpAny_mkText (wpAny_holding (wpAny_bind (L0.at (wpAny_bind (L1.at ?_))))))
  show wpAny _ _ (getAttrByItsOwn _ _ _ _ _ _) _ _ _
  unfold getAttrByItsOwn hookBefore callGetattribute boundAndCalled
  refine wpAny_bind (L3.at ?_)
  refine wpAny_bind (wpAny_attempt (wpAny_holding ?_))
  show wpAny _ _ (bindSpecial _ (.ref x) >>= _) _ _ _
  refine wpAny_bind (wpAny_of_eq (slot_ga.bind _) ?_)
  refine call_ga I L4 L2 ?_
  show wpAny _ _ (Builtin.ObjectAttr.bindTo _ _ _ _) _ _ _
  unfold Builtin.ObjectAttr.bindTo
  dsimp only
  refine wpAny_bind (wpAny_holding (call_mem_get I L4 ?_))
  refine wpAny_pure ⟨_, rfl, ?_⟩
  exact wpAny_pure hq
theorem get_df {bag : Obj} {pl : Sem Bool} {Q : Value × List Value → Shared → Prop} (X : K.In h) (I : InstAt h x (foldObj w C dx f kids n) C (some bag)) (hga : findIn K (.ref C) "__getattribute__" = some (some (.builtin "collections.defaultdict.__getattribute__")))
    (hk : findIn K (.ref C) "__getattr__" = some none) (hin : mroIn K C (.type "collections.defaultdict") = some true)
    (hfi : findIn K (.ref C) "default_factory" = some (some (.builtin dfId)))
    (hf : findObj K C (some bag) "default_factory" = some (.bind (.builtin "member_descriptor.__get__") (.builtin dfId)))
    (hq : Q (.ref f, []) ⟨h, g, d, t + 1, os⟩) : wpAny (model prog w) A (getMethod (.ref x) "default_factory" pl) Q E ⟨h, g, d, t, os⟩ := by
  unfold getMethod
  refine wpAny_bind (special_inst X I hga ?_)
  dsimp only
  simp only [canon_ga, Bool.false_eq_true, if_false]
  refine wpAny_bind (special_inst X I hk ?_)
  simp only [Option.isSome_none, Bool.false_eq_true, if_false]
  refine wpAny_bind (special_inst X I hfi ?_)
  dsimp only
  refine wpAny_bind (wpAny_of_eq ty_df ?_)
  rw [if_pos (show (Value.type "member_descriptor" != Value.type "function" && Value.type "member_descriptor" != Value.type "method_descriptor" && Value.type "member_descriptor" != Value.type "wrapper_descriptor") = true by decide)]
  exact wpAny_bind (attr_df X I hga hk hin hf (wpAny_pure hq))
end
end
section
/-- the lambda that a def of one assignment makes -/
noncomputable def lamObj (st : Stmt) (qual : Str) (c : Addr) (pm : Value) (cc : Addr) (ctv : Value) : Obj := match st with
  | .FunctionDef _ _ [.Assign _ (.Lambda a b sc _) _] _ _ _ _ _ _ _ => kla_obj (Str.ofString "<lambda>") qual a b sc [(Str.ofString "self", c)] pm cc ctv
  | _ => default
noncomputable abbrev lamQual : Str := Str.ofString "FreezableDefaultDict.freeze" ++ Str.ofString ".<locals>." ++ Str.ofString "<lambda>"
theorem freeze_ct : ∀ {w : World} {dp un : Nat} {fr : Option (List Env)} {gd : Option (List Code)} {s : Shared} {Q E : Value → Shared → Prop} {x dx f : Addr} {kids : List Kid} {n : Nat}
   {p loose mean mg mb} {g : Heap}
   (X : (K2 w.params).In g) (TT : Top p loose mean mg mb g) (CH : CodeHd g 61 57) (U : Under g s.heap [(x, foldObj w 65 dx f kids n), (dx, bag0), (57, tabObj #[])]) (hdp : dp + 15 < 1000) (hu : un + 60 < 9900)
   (hxd : @Ne Nat x dx) (hx57 : @Ne Nat x 57) (hd57 : @Ne Nat dx 57)
   (hQ : ∀ lam cc c oc' co ctv tk0 h₂ tk₂, Under g h₂ [(lam, lamObj (inClass (stAt 3) 1) lamQual c ((mg "__name__").getD .none) cc ctv), (cc, oc'), (c, co), (x, foldObj w 65 dx f kids n), (dx, bagF w tk0 (.ref lam)), (57, tabObj #[rawInt 12, rawInt 23, .ref cc])] →
      co.data = .cell (some (.ref x)) → (∃ vs t, oc'.data = .fields vs ∧ vs[1]? = some (.str lamQual t)) → @LT.lt Nat _ cc lam → @LT.lt Nat _ c cc → @LT.lt Nat _ x cc → @LT.lt Nat _ dx cc → @LT.lt Nat _ 57 cc →
      @Ne Nat x c → @Ne Nat dx c → @Ne Nat 57 c → s.heap.get? c = none → Q .none { s with heap := h₂, toks := tk₂ })
   , wpAny (model PySem.Challenge.rw_il0142_02.row.prog w) (Ar dp un fr gd) (call (.ref 62) [.ref x]) Q E s := by
  k_fill
  intro w dp un fr gd s Q E x dx f kids n p loose mean mg mb g X TT CH U hdp hu hxd hx57 hd57 hQ
  have T := topRead_of TT
  refine' enterC [(Str.ofString "self", .ref x)] (Str.ofString "self") (.ref x) ?X ?T ?U ?ho ?hcd ?hroom ?hbind ?hcs ?hkind ?hval ?_ ?hco ?hgen ?hk
  case X => assumption
  case T => assumption
  case U => assumption
  case ho => k_is
  case hcd => k_is
  case hroom => exact roomE (by assumption)
  case hbind => exact rfl
  case hcs => exact fun _ => rfl
  case hkind => (intro y hy; rw [List.mem_singleton.mp hy]; exact .inr ⟨rfl, rfl⟩)
  case hval => exact fun _ => rfl
  case hco => exact rfl
  case hgen => exact rfl
  case hk => exact rfl
  intro L' c h₁ tk o Fa Na hod k₁ hc
  obtain ⟨oc, od, odt, osl⟩ := o
  dsimp only at hod
  subst hod
  try dsimp only
  k_fold
  k_steps
  have hcn : AllNe c [(x, foldObj w 65 dx f kids n), (dx, bag0), (57, tabObj #[])] := allNe_of fun p hp e => by rw [← e, (U.at_ p hp).1] at hc; cases hc
  simp only [AllNe] at hcn
  refine kla_eval rfl ?_
  refine' kla_nest Fa Na TT CH ?cd ?U ?trip ?among ?cl ?_
  case cd => exact rfl
  case U => k_updF
  case trip => exact True.intro
  case among => exact rfl
  case cl => exact rfl
  intro f' c' oc' vs' t' ct' h' tk' F' N' d1' d2' l1 l2
  (try dsimp only at N')
  clear Fa Na
  refine wpAny_Name (wpAny_loadName_cell rfl rfl (c := c) (by first | rfl | simp) ⟨_, News.get N' (.tail _ (.tail _ (.head _))), rfl⟩ ?_) (by decide)
  have X' : (K2 w.params).In h' := X.keeps F'.keep
  have I' : InstAt h' x (foldObj w 65 dx f kids n) 65 (some bag0) := ⟨(N' (x, foldObj w 65 dx f kids n) (by k_mem)).1, rfl, rfl, (N' (dx, bag0) (by k_mem)).1⟩
  have LC : Looks (model PySem.Challenge.rw_il0142_02.row.prog w) h' (mroOf (.ref 65)) (.ref 65 :: bmD) := by
    have hc : ∃ cd, clsIn (K2 w.params) 65 = some cd ∧ cd.mro = .ref 65 :: bmD := ⟨_, by k_is, rfl⟩
    obtain ⟨cd, hc, hm⟩ := hc
    rw [← hm]
    exact fun A Q E s k q => wpAny_bind ((looks_clsIn X' hc) A _ E s k (wpAny_pure q))
  refine set_frozen X' I' rfl (by k_is) (by k_is) (by k_is) LC (by k_is) rfl (fun h₂ tk₂ hs hb => ?_)
  refine wpAny_execs_nil ?_
  have a1 : @LT.lt Nat _ c c' := l1 _ (.head _)
  have a2 : @LT.lt Nat _ x c' := l1 _ (.tail _ (.head _))
  have a3 : @LT.lt Nat _ dx c' := l1 _ (.tail _ (.tail _ (.head _)))
  have a4 : @LT.lt Nat _ 57 c' := l1 _ (.tail _ (.tail _ (.tail _ (.head _))))
  have a5 : @LT.lt Nat _ c' f' := l2
  have oth : ∀ b o, @Ne Nat b dx → (b, o) ∈ _ → h₂.get? b = some o ∧ g.get? b = none := fun b o hne hm => ⟨(hs.2 b hne).trans (N' (b, o) hm).1, (N' (b, o) hm).2.2⟩
  refine hQ f' c' c oc' { cls := oc, dict := od, data := .cell (some (.ref x)), slots := osl } ct' (tk' + 1) h₂ tk₂ ⟨fun b o e => ?_, ?_, fun p hp => ?_⟩ rfl ⟨vs', t', d1', d2'⟩ a5 a1 a2 a3 a4 hcn.1 hcn.2.1 hcn.2.2.1 hc
  · exact (hs.2 b (fun e2 => by rw [e2, (N' (dx, bag0) (by k_mem)).2.2] at e; cases e)).trans (F'.keep b o e)
  · rw [hs.1]; exact Nat.le_of_lt (Nat.lt_of_le_of_lt F'.above F'.ns.lt)
  · simp only [List.mem_cons, List.not_mem_nil, or_false] at hp
    rcases hp with rfl | rfl | rfl | rfl | rfl | rfl
    · exact oth _ _ (by omega) (.head _)
    · exact oth _ _ (by omega) (.tail _ (.head _))
    · exact oth _ _ (by omega) (.tail _ (.tail _ (.head _)))
    · exact oth _ _ (by omega) (.tail _ (.tail _ (.tail _ (.head _))))
    · exact ⟨hb, (N' (dx, bag0) (by k_mem)).2.2⟩
    · exact oth _ _ (by omega) (.tail _ (.tail _ (.tail _ (.tail _ (.tail _ (.head _))))))
end
section

theorem scope_ok2 : ∀ x ∈ ([(Str.ofString "key", NameKind.local), (Str.ofString "self", NameKind.free)] : List (Str × NameKind)), x.2 ≠ .cell := by decide
theorem fmissing_ct : ∀ {w : World} {dp un : Nat} {fr : Option (List Env)} {gd : Option (List Code)} {s : Shared} {Q E : Value → Shared → Prop} {x dx f lam c cc : Addr} {co oc' of : Obj} {fd : FuncData} {pmv ctv : Value} {tk0 : Tok} {kids : List Kid} {n : Nat} {y : Str} {t : Tok}
   {p loose mg mb} {g : Heap} {R : Value → Heap → Heap → Prop}
   (X : (K2 w.params).In g) (T : TopRead p loose mg mb g) (U : Under g s.heap [(x, foldObj w 65 dx f kids n), (dx, bagF w tk0 (.ref lam)), (lam, lamObj (inClass (stAt 3) 1) lamQual c pmv cc ctv), (c, co), (cc, oc')]) (hdp : dp + 15 < 1000) (hu : un + 60 < 9900)
   (hco : co.data = .cell (some (.ref x))) (hoc : ∃ vs t, oc'.data = .fields vs ∧ vs[1]? = some (.str lamQual t))
   (hf : g.get? f = some of) (hfd : of.data = .func fd) 
   (hcall : ∀ fr' h₀ tk₀, (∀ b o, s.heap.get? b = some o → h₀.get? b = some o) → g.objs.size ≤ h₀.objs.size →
      wpAny (model PySem.Challenge.rw_il0142_02.row.prog w) (Ar (dp + 2) (un + 6) fr' gd) (call (.ref f) []) (fun v s₁ => ∃ h₁ tk₁, s₁ = { s with heap := h₁, toks := tk₁ } ∧ (∀ b o, h₀.get? b = some o → h₁.get? b = some o) ∧ R v h₀ h₁) (fun _ _ => False) { s with heap := h₀, toks := tk₀ })
   (hQ : ∀ v h₀ h₁ tk, (∀ b o, s.heap.get? b = some o → h₀.get? b = some o) → (∀ b o, h₀.get? b = some o → h₁.get? b = some o) → g.objs.size ≤ h₀.objs.size → R v h₀ h₁ → Q v { s with heap := h₁, toks := tk })
   , wpAny (model PySem.Challenge.rw_il0142_02.row.prog w) (Ar dp un fr gd) (call (.ref 55) [.ref x, .str y t]) Q E s := by
  k_fill
  intro w dp un fr gd s Q E x dx f lam c cc co oc' of fd pmv ctv tk0 kids n y t p loose mg mb g R X T U hdp hu hco hoc hf hfd hcall hQ
  refine' enterAt [(Str.ofString "self", .ref x), (Str.ofString "key", .str y t)] ?X ?T ?U ?ho ?hcd ?hroom ?hbind ?hloc ?_ ?hco ?hgen ?hk ?hcell
  case X => assumption
  case T => assumption
  case U => assumption
  case ho => k_is
  case hcd => k_is
  case hroom => exact roomE (by assumption)
  case hbind => exact BindsTo.of_eq rfl
  case hloc => exact locs rfl
  case hco => exact rfl
  case hgen => exact rfl
  case hk => exact rfl
  case hcell => decide
  intro L' h₁ F' N' k₁
  try dsimp only
  refine ks_wpAt_execs_cons (ks_wpAt_Return_some ?_)
  refine at_Call ?_
  refine at_Call ?_
  refine at_val (a := .builtin "getattr") (s' := { s with heap := h₁, toks := s.toks + 2 }) (by k_steps) ?_
  refine at_callWith_builtin rfl ?_
  simp only [starEach, backTo, List.map_cons, List.map_nil, Bool.false_eq_true, if_false]
  refine at_evalArgs_plain (at_spliced_cons ?_)
  refine at_val (a := .ref x) (s' := { s with heap := h₁, toks := s.toks + 2 }) (by k_steps) ?_
  refine at_spliced_cons ?_
  refine at_val (a := .str "_frozen" (s.toks + 2)) (s' := { s with heap := h₁, toks := s.toks + 2 + 1 }) (by k_steps) ?_
  refine at_spliced_cons ?_
  refine at_Attribute ?_
  have I1 : InstAt h₁ x (foldObj w 65 dx f kids n) 65 (some (bagF w tk0 (.ref lam))) := ⟨(N' _ (.head _)).1, rfl, rfl, (N' _ (.tail _ (.head _))).1⟩
  refine super_read (s := { s with heap := h₁, toks := s.toks + 2 + 1 }) F' X N' T (by k_is) (by rfl) (by rfl) I1 (by k_is) (by rfl) (by first | rfl | decide +kernel) (by k_is) (by k_is) (by k_is) (by k_is) (by decide) (by rfl) (by rfl) (by rfl) (by rfl) (by decide +kernel) (by first | boot_by_name | rfl) (fun so h₂ F₂ N₂ k₂ => ?_)
  have X2 : (K2 w.params).In h₂ := X.keeps F₂.keep
  have I2 : InstAt h₂ x (foldObj w 65 dx f kids n) 65 (some (bagF w tk0 (.ref lam))) := ⟨k₂ _ _ I1.at_, rfl, rfl, k₂ _ _ I1.dict⟩
  have hx65 : x ≠ 65 := fun e => by
    have := (N' _ (.head _)).2.2
    rw [show (x, foldObj w 65 dx f kids n).1 = x from rfl, e] at this
    obtain ⟨oC, cd, e1, _⟩ := fd_cls (P := w.params)
    rw [X _ _ e1] at this
    cases this
  have LC : ∀ h, (K2 w.params).In h → Looks (model PySem.Challenge.rw_il0142_02.row.prog w) h (mroOf (.ref 65)) (.ref 65 :: bmD) := fun h Xh => by
    have hc : ∃ cd, clsIn (K2 w.params) 65 = some cd ∧ cd.mro = .ref 65 :: bmD := ⟨_, by k_is, rfl⟩
    obtain ⟨cd, hc, hm⟩ := hc
    rw [← hm]
    exact fun A Q E s k q => wpAny_bind ((looks_clsIn Xh hc) A _ E s k (wpAny_pure q))
  refine attr_super_miss (N₂ _ (.head _)).1 (looks_opaque X2 (by k_is)) (LC _ X2) I2.at_ rfl (looks_mroIn X2 (by k_is)) hx65 ?_
  refine let_go (fun _ _ e => by cases e) ?_
  refine wpAt_of_wpAny (Calls.spliced_nil ?_)
  have k₃ : ∀ b o, h₂.get? b = some o → (h₂.push (boundMiss x)).get? b = some o := fun b o e => Heap.get?_push_of_some _ e
  generalize h₂.push (boundMiss x) = h₃ at k₃ ⊢
  generalize h₂.objs.size = b at ⊢
  have X3 : (K2 w.params).In h₃ := X2.keeps k₃
  have I3 : InstAt h₃ x (foldObj w 65 dx f kids n) 65 (some (bagF w tk0 (.ref lam))) := ⟨k₃ _ _ I2.at_, rfl, rfl, k₃ _ _ I2.dict⟩
  have F₃ : Fr g L' h₃ _ := Fr.keeps F₂ k₃
  have kk : ∀ b o, s.heap.get? b = some o → h₃.get? b = some o := fun b o e => k₃ _ _ (k₂ _ _ (k₁ _ _ e))
  have hl := kk _ _ (U.at_ (lam, lamObj (inClass (stAt 3) 1) lamQual c pmv cc ctv) (.tail _ (.tail _ (.head _)))).1
  have hc := kk _ _ (U.at_ (c, co) (.tail _ (.tail _ (.tail _ (.head _))))).1
  have hcc := kk _ _ (U.at_ (cc, oc') (.tail _ (.tail _ (.tail _ (.tail _ (.head _)))))).1
  refine getattr_frozen (v := .ref lam) X3 I3 (by k_is) (by k_is) (by k_is) (by k_is) (by first | rfl | kernel_rfl) rfl ?_
  refine wpAt_of_wpAny (callWith_of (P := FnAt lam) rfl keeps_F ?_)
  simp only [starEach, backTo, List.map_cons, List.map_nil, Bool.false_eq_true, if_false]
  refine Calls.evalArgs_plain (Calls.spliced_cons ?_)
  refine PySem.wpAny_mono (Q := fun v s₁ => v = .str y t ∧ s₁ = { s with heap := h₃, toks := s.toks + 2 + 1 + 1 }) (E := fun _ _ => False) (by k_steps) (fun v s₁ e => ?_) (fun _ _ e => e.elim)
  obtain ⟨rfl, rfl⟩ := e
  refine Calls.spliced_nil ?_
  refine ⟨⟨_, _, _, _, hl⟩, ?_⟩
  obtain ⟨vs, tq, hoc1, hoc2⟩ := hoc
  refine wpAny_call (kla_callFunE (A := _) ?hroom hl rfl rfl rfl rfl ⟨cc, oc', vs, tq, rfl, hcc, hoc1, hoc2⟩ ?_)
  case hroom => (show dp + 1 < 1000; exact room0 hdp (by decide))
  refine wpAny_of_eq (a := [(Str.ofString "key", .str y t)]) rfl ?_
  refine wpAny_newFunctionEnv (scope_ok2) (locs rfl) (fun h₄ hns hsb => ⟨((T.keeps F₃.keep).nolimit).fresh _ hsb, ?_⟩) rfl
  have hk₄ : ∀ b o, h₃.get? b = some o → h₄.get? b = some o := fun b o e => hsb.extBut b o (Nat.ne_of_lt (Heap.lt_size e)) (Heap.get?_push_of_some _ e)
  have X4 : (K2 w.params).In h₄ := X3.keeps hk₄
  have I4 : InstAt h₄ x (foldObj w 65 dx f kids n) 65 (some (bagF w tk0 (.ref lam))) := ⟨hk₄ _ _ I3.at_, rfl, rfl, hk₄ _ _ I3.dict⟩
  have hf4 := hk₄ _ _ (F₃.keep _ _ hf)
  obtain ⟨oc1, od1, odt1, osl1⟩ := of
  dsimp only at hfd
  subst hfd
  refine kla_codeExpr (PySem.wpAny_mono (E := fun _ _ => False) ?_ (fun _ _ e => e) (fun _ _ e => e.elim))
  refine MethodCall_ ?_
  refine wpAny_Name (wpAny_loadName_free rfl rfl rfl ⟨co, hk₄ _ _ hc, hco⟩ ?_) (by decide)
  refine get_df X4 I4 (by k_is) (by k_is) (by k_is) (by k_is) (by first | rfl | kernel_rfl) ?_
  refine callWith_F0 ⟨_, _, _, _, hf4⟩ ?_
  have hz4 : g.objs.size ≤ h₄.objs.size := Nat.le_of_lt (Nat.lt_of_le_of_lt F₃.above (F₃.ns.keeps hk₄).lt)
  refine PySem.wpAny_mono (hcall _ h₄ _ (fun b o e => hk₄ _ _ (kk _ _ e)) hz4) (fun v s₁ e => ?_) (fun _ _ e => False.elim e)
  obtain ⟨h₅, tk₅, rfl, k₅, r⟩ := e
  exact hQ _ _ _ _ (fun b o e => hk₄ _ _ (kk _ _ e)) k₅ hz4 r
end
section
theorem trip1 (cc : Addr) : TriplesOk (#[rawInt 12, rawInt 23, Value.ref cc] : Array Value).toList := by
  simp [TriplesOk, rawInt]
theorem among1 (cc : Addr) : codeAmong { line := 12, col := 23, endLine := 12, endCol := 57 } (#[rawInt 12, rawInt 23, Value.ref cc] : Array Value).toList = some (.ref cc) := by
  simp [codeAmong, rawInt]
theorem freeze2_ct : ∀ {w : World} {dp un : Nat} {fr : Option (List Env)} {gd : Option (List Code)} {s : Shared} {Q E : Value → Shared → Prop} {x dx f : Addr} {kids : List Kid} {n : Nat} {cc : Addr} {oc' : Obj}
   {p loose mean mg mb} {g : Heap}
   (X : (K2 w.params).In g) (TT : Top p loose mean mg mb g) (CH : CodeHd g 61 57) (U : Under g s.heap [(x, foldObj w 65 dx f kids n), (dx, bag0), (57, tabObj #[rawInt 12, rawInt 23, .ref cc]), (cc, oc')]) (hdp : dp + 15 < 1000) (hu : un + 60 < 9900)
   (hxd : @Ne Nat x dx) (hx57 : @Ne Nat x 57) (hd57 : @Ne Nat dx 57) (hcc : @Ne Nat cc dx)
   (hQ : ∀ lam c co ctv tk0 h₂ tk₂, Under g h₂ [(lam, lamObj (inClass (stAt 3) 1) lamQual c ((mg "__name__").getD .none) cc ctv), (c, co), (x, foldObj w 65 dx f kids n), (dx, bagF w tk0 (.ref lam)), (57, tabObj #[rawInt 12, rawInt 23, .ref cc]), (cc, oc')] →
      co.data = .cell (some (.ref x)) → @LT.lt Nat _ c lam → @LT.lt Nat _ x lam → @LT.lt Nat _ dx lam → @LT.lt Nat _ 57 lam → @LT.lt Nat _ cc lam →
      @Ne Nat x c → @Ne Nat dx c → @Ne Nat 57 c → @Ne Nat cc c → s.heap.get? c = none → Q .none { s with heap := h₂, toks := tk₂ })
   , wpAny (model PySem.Challenge.rw_il0142_02.row.prog w) (Ar dp un fr gd) (call (.ref 62) [.ref x]) Q E s := by
  k_fill
  intro w dp un fr gd s Q E x dx f kids n cc oc' p loose mean mg mb g X TT CH U hdp hu hxd hx57 hd57 hcc hQ
  have T := topRead_of TT
  refine' enterC [(Str.ofString "self", .ref x)] (Str.ofString "self") (.ref x) ?X ?T ?U ?ho ?hcd ?hroom ?hbind ?hcs ?hkind ?hval ?_ ?hco ?hgen ?hk
  case X => assumption
  case T => assumption
  case U => assumption
  case ho => k_is
  case hcd => k_is
  case hroom => exact roomE (by assumption)
  case hbind => exact rfl
  case hcs => exact fun _ => rfl
  case hkind => (intro y hy; rw [List.mem_singleton.mp hy]; exact .inr ⟨rfl, rfl⟩)
  case hval => exact fun _ => rfl
  case hco => exact rfl
  case hgen => exact rfl
  case hk => exact rfl
  intro L' c h₁ tk o Fa Na hod k₁ hc
  obtain ⟨oc, od, odt, osl⟩ := o
  dsimp only at hod
  subst hod
  try dsimp only
  k_fold
  refine wpAny_execs_cons ?_
  refine plainObj_wpAny_Assign_Attribute ?_ (by with_unfolding_all rfl)
  have hcn : AllNe c [(x, foldObj w 65 dx f kids n), (dx, bag0), (57, tabObj #[rawInt 12, rawInt 23, .ref cc]), (cc, oc')] := allNe_of fun p hp e => by rw [← e, (U.at_ p hp).1] at hc; cases hc
  simp only [AllNe] at hcn
  refine kla_eval rfl ?_
  refine' kla_hit (ps := #[rawInt 12, rawInt 23, .ref cc]) (c' := cc) Fa Na TT CH ?cd ?mem ?trip ?among ?cl ?_
  case cd => exact rfl
  case mem => exact .tail _ (.tail _ (.tail _ (.head _)))
  case trip => exact trip1 cc
  case among => exact among1 cc
  case cl => exact rfl
  intro f' ct' h' tk' F' N' l1
  (try dsimp only at N')
  clear Fa Na
  refine wpAny_Name (wpAny_loadName_cell rfl rfl (c := c) (by first | rfl | simp) ⟨_, News.get N' (.tail _ (.head _)), rfl⟩ ?_) (by decide)
  have X' : (K2 w.params).In h' := X.keeps F'.keep
  have I' : InstAt h' x (foldObj w 65 dx f kids n) 65 (some bag0) := ⟨(N' (x, foldObj w 65 dx f kids n) (by k_mem)).1, rfl, rfl, (N' (dx, bag0) (by k_mem)).1⟩
  have LC : Looks (model PySem.Challenge.rw_il0142_02.row.prog w) h' (mroOf (.ref 65)) (.ref 65 :: bmD) := by
    have hc : ∃ cd, clsIn (K2 w.params) 65 = some cd ∧ cd.mro = .ref 65 :: bmD := ⟨_, by k_is, rfl⟩
    obtain ⟨cd, hc, hm⟩ := hc
    rw [← hm]
    exact fun A Q E s k q => wpAny_bind ((looks_clsIn X' hc) A _ E s k (wpAny_pure q))
  refine set_frozen X' I' rfl (by k_is) (by k_is) (by k_is) LC (by k_is) rfl (fun h₂ tk₂ hs hb => ?_)
  refine wpAny_execs_nil ?_
  have a1 : @LT.lt Nat _ c f' := l1 _ (.head _)
  have a2 : @LT.lt Nat _ x f' := l1 _ (.tail _ (.head _))
  have a3 : @LT.lt Nat _ dx f' := l1 _ (.tail _ (.tail _ (.head _)))
  have a4 : @LT.lt Nat _ 57 f' := l1 _ (.tail _ (.tail _ (.tail _ (.head _))))
  have a5 : @LT.lt Nat _ cc f' := l1 _ (.tail _ (.tail _ (.tail _ (.tail _ (.head _)))))
  have oth : ∀ b o, @Ne Nat b dx → (b, o) ∈ _ → h₂.get? b = some o ∧ g.get? b = none := fun b o hne hm => ⟨(hs.2 b hne).trans (N' (b, o) hm).1, (N' (b, o) hm).2.2⟩
  refine hQ f' c { cls := oc, dict := od, data := .cell (some (.ref x)), slots := osl } ct' (tk' + 1) h₂ tk₂ ⟨fun b o e => ?_, ?_, fun p hp => ?_⟩ rfl a1 a2 a3 a4 a5 hcn.1 hcn.2.1 hcn.2.2.1 hcn.2.2.2.1 hc
  · exact (hs.2 b (fun e2 => by rw [e2, (N' (dx, bag0) (by k_mem)).2.2] at e; cases e)).trans (F'.keep b o e)
  · rw [hs.1]; exact Nat.le_of_lt (Nat.lt_of_le_of_lt F'.above F'.ns.lt)
  · simp only [List.mem_cons, List.not_mem_nil, or_false] at hp
    rcases hp with rfl | rfl | rfl | rfl | rfl | rfl
    · exact oth _ _ (by omega) (.head _)
    · exact oth _ _ (by omega) (.tail _ (.head _))
    · exact oth _ _ (by omega) (.tail _ (.tail _ (.head _)))
    · exact ⟨hb, (N' (dx, bag0) (by k_mem)).2.2⟩
    · exact oth _ _ (by omega) (.tail _ (.tail _ (.tail _ (.tail _ (.head _)))))
    · exact oth _ _ (by omega) (.tail _ (.tail _ (.tail _ (.tail _ (.tail _ (.head _))))))
end
section
set_option maxHeartbeats 400000
section
variable {prog : Program} {w : World} {A : Around} {E : Value → Shared → Prop} {K : Frag} {x C : Addr} {ox : Obj} {od : Option Obj} {h : Heap} {g : Array GenState} {d : Drawn} {t : Nat} {os : OsState} {dx : Addr}
theorem bagF_eq2 (w : World) (tk tk0 : Tok) (v v0 : Value) : Obj.putName (Str.ofString "_frozen") (PyData.keyHash w.params (Str.ofString "_frozen")) (.str (Str.ofString "_frozen") tk) v (bagF w tk0 v0) = bagF w tk0 v := by rfl
theorem set_frozen2 {v v0 : Value} {tk0 : Tok} {cd : ClassData} {Q : Unit → Shared → Prop} (X : K.In h) (I : InstAt h x ox C (some (bagF w tk0 v0))) (hdx : ox.dict = some dx)
    (hsa : findIn K (.ref C) "__setattr__" = some (some (.builtin "object.__setattr__"))) (hfz : findIn K (.ref C) "_frozen" = some none) (hin : mroIn K C (.type "object") = some true)
    (LC : Looks (model prog w) h (mroOf (.ref C)) (.ref C :: bmD)) (hc : clsIn K C = some cd) (hh : cd.hasDict = true)
    (hq : ∀ h' tk, Heap.SameBut dx h h' → h'.get? dx = some (bagF w tk0 v) → Q () ⟨h', g, d, tk, os⟩) :
    wpAny (model prog w) A (setAttr (.ref x) "_frozen" v) Q E ⟨h, g, d, t, os⟩ := by
  have L0 := I.type (M := model prog w)
  have L1 := looks_findIn (M := model prog w) X hfz
  have hbag : h.get? dx = some (bagF w tk0 v0) := by have := I.dict; rw [hdx] at this; exact this
  have ha : ∀ tk, argsOk "object.__setattr__" ⟨.ref x :: [.str "_frozen" tk, v], []⟩ := fun _ => ar_sa _ _ _
  unfold setAttr
  refine wpAny_bind (wpAny_mkText ?_)
  refine wpAny_bind ?_
  unfold callSpecial?
  refine wpAny_bind (special_inst X I hsa ?_)
  refine wpAny_holding (wpAny_bind (wpAny_of_eq (slot_sa.bind _) ?_))
  refine wpAny_bind ?_
  refine call_on I slot_sa.plain en_sa (.inl kd_sa) sp_sa (ha _) (looks_mroIn X hin) ?_
  unfold Builtin.«object.__setattr__»
  dsimp only
  refine wpAny_bind (refuse_ok L0 LC ?_)
  refine wpAny_bind (wpAny_of_eq (a := ("_frozen" : Str)) (by first | rfl | kernel_rfl) ?_)
  refine wpAny_bind (L0.at ?_)
  refine wpAny_bind (L1.at ?_)
  refine wpAny_bind (wpAny_of_eq (a := none) rfl ?_)
  dsimp only
  unfold Builtin.ObjectAttr.storeInOwnDict
  refine wpAny_bind (wpAny_of_eq (a := ()) rfl ?_)
  refine wpAny_bind ?_
  unfold Builtin.ObjectAttr.ownDictForStores
  dsimp only
  unfold instanceDict
  refine wpAny_bind (wpAny_loadPart_at I.at_ ?_)
  rw [I.cls]
  dsimp only
  refine wpAny_bind ((looks_clsIn X hc).at ?_)
  simp only [hh, hdx]
  refine wpAny_pure (a := some dx) ?_
  dsimp only
  unfold Builtin.ObjectAttr.storeInDict
  refine wpAny_bind (wpAny_of_eq (a := ()) rfl ?_)
  refine wpAny_bind ?_
  unfold nsSet
  refine wpAny_bind (wpAny_bind (wpAny_askSetting (wpAny_pure (wpAny_bind (wpAny_mkText (wpAny_bind (wpAny_loadPart hbag ?_)))))))
  simp only [bagF]
  rw [show aRefKeyMayBeTheName (Str.ofString "_frozen") #[{ hash := PyData.keyHash w.params (Str.ofString "_frozen"), key := .str (Str.ofString "_frozen") tk0, val := v0 }] = false from by rfl]
  refine wpAny_updatePart hbag ?_
  have hD : (h.update dx (Obj.putName (Str.ofString "_frozen") (PyData.keyHash w.params (Str.ofString "_frozen")) (.str (Str.ofString "_frozen") (t + 1)) v)).get? dx = some (bagF w tk0 v) := by
    rw [Heap.get?_update_self _ hbag rfl, bagF_eq2]
  refine wpAny_bind (wpAny_lookBehind hD (pastItsLine_dict (by rw [sizeLine_eq]; simp)) ?_)
  exact wpAny_pure ⟨_, rfl, wpAny_pure (wpAny_pure (hq _ _ (Heap.SameBut.update ..) hD))⟩
end
end
section
theorem freeze3_ct : ∀ {w : World} {dp un : Nat} {fr : Option (List Env)} {gd : Option (List Code)} {s : Shared} {Q E : Value → Shared → Prop} {x dx f : Addr} {kids : List Kid} {n : Nat} {cc : Addr} {oc' : Obj} {v0 : Value} {tk1 : Tok}
   {p loose mean mg mb} {g : Heap}
   (X : (K2 w.params).In g) (TT : Top p loose mean mg mb g) (CH : CodeHd g 61 57) (U : Under g s.heap [(x, foldObj w 65 dx f kids n), (dx, bagF w tk1 v0), (57, tabObj #[rawInt 12, rawInt 23, .ref cc]), (cc, oc')]) (hdp : dp + 15 < 1000) (hu : un + 60 < 9900)
   (hxd : @Ne Nat x dx) (hx57 : @Ne Nat x 57) (hd57 : @Ne Nat dx 57) (hcc : @Ne Nat cc dx)
   (hQ : ∀ lam c co ctv tk0 h₂ tk₂, Under g h₂ [(lam, lamObj (inClass (stAt 3) 1) lamQual c ((mg "__name__").getD .none) cc ctv), (c, co), (x, foldObj w 65 dx f kids n), (dx, bagF w tk0 (.ref lam)), (57, tabObj #[rawInt 12, rawInt 23, .ref cc]), (cc, oc')] →
      co.data = .cell (some (.ref x)) → @LT.lt Nat _ c lam → @LT.lt Nat _ x lam → @LT.lt Nat _ dx lam → @LT.lt Nat _ 57 lam → @LT.lt Nat _ cc lam →
      @Ne Nat x c → @Ne Nat dx c → @Ne Nat 57 c → @Ne Nat cc c → s.heap.get? c = none → Q .none { s with heap := h₂, toks := tk₂ })
   , wpAny (model PySem.Challenge.rw_il0142_02.row.prog w) (Ar dp un fr gd) (call (.ref 62) [.ref x]) Q E s := by
  k_fill
  intro w dp un fr gd s Q E x dx f kids n cc oc' v0 tk1 p loose mean mg mb g X TT CH U hdp hu hxd hx57 hd57 hcc hQ
  have T := topRead_of TT
  refine' enterC [(Str.ofString "self", .ref x)] (Str.ofString "self") (.ref x) ?X ?T ?U ?ho ?hcd ?hroom ?hbind ?hcs ?hkind ?hval ?_ ?hco ?hgen ?hk
  case X => assumption
  case T => assumption
  case U => assumption
  case ho => k_is
  case hcd => k_is
  case hroom => exact roomE (by assumption)
  case hbind => exact rfl
  case hcs => exact fun _ => rfl
  case hkind => (intro y hy; rw [List.mem_singleton.mp hy]; exact .inr ⟨rfl, rfl⟩)
  case hval => exact fun _ => rfl
  case hco => exact rfl
  case hgen => exact rfl
  case hk => exact rfl
  intro L' c h₁ tk o Fa Na hod k₁ hc
  obtain ⟨oc, od, odt, osl⟩ := o
  dsimp only at hod
  subst hod
  try dsimp only
  k_fold
  refine wpAny_execs_cons ?_
  refine plainObj_wpAny_Assign_Attribute ?_ (by with_unfolding_all rfl)
  have hcn : AllNe c [(x, foldObj w 65 dx f kids n), (dx, bagF w tk1 v0), (57, tabObj #[rawInt 12, rawInt 23, .ref cc]), (cc, oc')] := allNe_of fun p hp e => by rw [← e, (U.at_ p hp).1] at hc; cases hc
  simp only [AllNe] at hcn
  refine kla_eval rfl ?_
  refine' kla_hit (ps := #[rawInt 12, rawInt 23, .ref cc]) (c' := cc) Fa Na TT CH ?cd ?mem ?trip ?among ?cl ?_
  case cd => exact rfl
  case mem => exact .tail _ (.tail _ (.tail _ (.head _)))
  case trip => exact trip1 cc
  case among => exact among1 cc
  case cl => exact rfl
  intro f' ct' h' tk' F' N' l1
  (try dsimp only at N')
  clear Fa Na
  refine wpAny_Name (wpAny_loadName_cell rfl rfl (c := c) (by first | rfl | simp) ⟨_, News.get N' (.tail _ (.head _)), rfl⟩ ?_) (by decide)
  have X' : (K2 w.params).In h' := X.keeps F'.keep
  have I' : InstAt h' x (foldObj w 65 dx f kids n) 65 (some (bagF w tk1 v0)) := ⟨(N' (x, foldObj w 65 dx f kids n) (by k_mem)).1, rfl, rfl, (N' (dx, bagF w tk1 v0) (by k_mem)).1⟩
  have LC : Looks (model PySem.Challenge.rw_il0142_02.row.prog w) h' (mroOf (.ref 65)) (.ref 65 :: bmD) := by
    have hc : ∃ cd, clsIn (K2 w.params) 65 = some cd ∧ cd.mro = .ref 65 :: bmD := ⟨_, by k_is, rfl⟩
    obtain ⟨cd, hc, hm⟩ := hc
    rw [← hm]
    exact fun A Q E s k q => wpAny_bind ((looks_clsIn X' hc) A _ E s k (wpAny_pure q))
  refine set_frozen2 X' I' rfl (by k_is) (by k_is) (by k_is) LC (by k_is) rfl (fun h₂ tk₂ hs hb => ?_)
  refine wpAny_execs_nil ?_
  have a1 : @LT.lt Nat _ c f' := l1 _ (.head _)
  have a2 : @LT.lt Nat _ x f' := l1 _ (.tail _ (.head _))
  have a3 : @LT.lt Nat _ dx f' := l1 _ (.tail _ (.tail _ (.head _)))
  have a4 : @LT.lt Nat _ 57 f' := l1 _ (.tail _ (.tail _ (.tail _ (.head _))))
  have a5 : @LT.lt Nat _ cc f' := l1 _ (.tail _ (.tail _ (.tail _ (.tail _ (.head _)))))
  have oth : ∀ b o, @Ne Nat b dx → (b, o) ∈ _ → h₂.get? b = some o ∧ g.get? b = none := fun b o hne hm => ⟨(hs.2 b hne).trans (N' (b, o) hm).1, (N' (b, o) hm).2.2⟩
  refine hQ f' c { cls := oc, dict := od, data := .cell (some (.ref x)), slots := osl } ct' tk1 h₂ tk₂ ⟨fun b o e => ?_, ?_, fun p hp => ?_⟩ rfl a1 a2 a3 a4 a5 hcn.1 hcn.2.1 hcn.2.2.1 hcn.2.2.2.1 hc
  · exact (hs.2 b (fun e2 => by rw [e2, (N' (dx, bagF w tk1 v0) (by k_mem)).2.2] at e; cases e)).trans (F'.keep b o e)
  · rw [hs.1]; exact Nat.le_of_lt (Nat.lt_of_le_of_lt F'.above F'.ns.lt)
  · simp only [List.mem_cons, List.not_mem_nil, or_false] at hp
    rcases hp with rfl | rfl | rfl | rfl | rfl | rfl
    · exact oth _ _ (by omega) (.head _)
    · exact oth _ _ (by omega) (.tail _ (.head _))
    · exact oth _ _ (by omega) (.tail _ (.tail _ (.head _)))
    · exact ⟨hb, (N' (dx, bagF w tk1 v0) (by k_mem)).2.2⟩
    · exact oth _ _ (by omega) (.tail _ (.tail _ (.tail _ (.tail _ (.head _)))))
    · exact oth _ _ (by omega) (.tail _ (.tail _ (.tail _ (.tail _ (.tail _ (.head _))))))
end
section
set_option maxHeartbeats 400000
theorem sp_items : splitId "dict.items" = some ("dict", "items") := by decide +kernel
theorem kd_items : builtinKind "dict.items" = some .method := by decide +kernel
section
variable {prog : Program} {w : World} {A : Around} {E : Value → Shared → Prop} {K : Frag} {x C dx f : Addr} {od : Option Obj} {h : Heap} {g : Array GenState} {d : Drawn} {t : Nat} {os : OsState} {kids : List Kid} {n : Nat}
/-- items() of a folder: a view -/
theorem fold_items {Q : Value → Shared → Prop} (X : K.In h) (I : InstAt h x (foldObj w C dx f kids n) C od) (hsub : mroIn K C (.type "dict") = some true) (hod : mroIn K C (.type "collections.OrderedDict") = some false) (hxs : (x == sysModules) = false)
    (hq : Q (.ref h.objs.size) ⟨h.push { cls := .type "dict_items", data := .fields #[.ref x] }, g, d, t, os⟩) :
    wpAny (model prog w) A (call (.builtin "dict.items") [.ref x]) Q E ⟨h, g, d, t, os⟩ := by
  have L0 := I.type (M := model prog w)
  have L4 := looks_mroIn (M := model prog w) X hod
  have ha : argsOk "dict.items" ⟨.ref x :: [], []⟩ := F.args_dict_items_1 _
  refine call_on I F.slot_dict_items.plain F.entry_dict_items (.inr kd_items) sp_items ha (looks_mroIn X hsub) ?_
  unfold Builtin.«dict.items» Builtin.Dict.noArgs
  refine wpAny_bind ?_
  repeat (any_goals (first | assumption | refine L0.at ?_ | refine L4.at ?_ | wp_step))
  exact ⟨_, rfl, hq⟩
end
section
variable {prog : Program} {w : World} {A : Around} {E : Value → Shared → Prop} {s : Shared} {od : Obj} {es : Array DictEntry}
theorem fi_iter {v d : Addr} {ep : Nat} {Q : Value → Shared → Prop} (hv : s.heap.IsItemsView v d) (ho : s.heap.get? d = some od) (hdat : od.data = .dict es ep)
    (hQ : Q (.ref s.heap.objs.size) { s with heap := s.heap.push { cls := .type "dict_itemiterator", data := .fields #[.none, .bool false, .ref d, .int 0 0, .int es.size 0, .int ep 0, .none, .none] } }) :
    wpAny (model prog w) A (pyIter (.ref v)) Q E s := by
  obtain ⟨ov, hov, hcv, hdv⟩ := id hv
  refine wpAny_pyIter_slot hv.typeIs F.slot_dict_items_iter (wpAny_call_entry F.slot_dict_items_iter hv.typeIs F.entry_dict_items_iter ?_ (F.args_dict_items_iter_1 _))
  unfold Builtin.«dict_items.__iter__» Builtin.Dict_items.dictOf Builtin.Dict_items.newIterator
  refine wpAny_bind (wpAny_pure (wpAny_bind (wpAny_bind (wpAny_field hov hdv (x := .ref d) rfl (wpAny_pure ?_)))))
  refine wpAny_bind (wpAny_bind (wpAny_dictEntries ho hdat (wpAny_bind (wpAny_dictEpoch ho hdat ?_))))
  have hown : Builtin.Dict_items.ownsTuple "dict_itemiterator" = true := by decide
  simp only [hown, if_true]
  refine wpAny_newObj_type (wpAny_pure ⟨_, rfl, "dict_itemiterator", _, ⟨_, Heap.get?_push_size _ rfl, rfl⟩, F.slot_dict_itemiterator_next.lookup, ?_⟩)
    (by simp only [sizeOk, Builtin.Dict_items.ownedTupleFields, List.size_toArray, List.length_append, List.length_cons, List.length_nil, sizeLine_eq]; omega)
  simpa [rawInt, Builtin.Dict_items.ownedTupleFields] using hQ
theorem fi_next {it d : Addr} {i ep : Nat} {ok ov : Value} {e : DictEntry} {Q : Option Value → Shared → Prop} (hit : IsItemIter s.heap it d i es.size ep ok ov)
    (ho : s.heap.get? d = some od) (hdat : od.data = .dict es ep) (hx : es[i]? = some e)
    (hQ : ∀ h', IsItemIterOut h' it d (i + 1) es.size ep e.key e.val s.heap.objs.size →
      h'.get? s.heap.objs.size = some { cls := .type "tuple", data := .seq #[e.key, e.val] } → h'.objs.size = s.heap.objs.size + 1 →
      (∀ b o, b ≠ it → s.heap.get? b = some o → h'.get? b = some o) → Q (some (.ref s.heap.objs.size)) { s with heap := h' }) :
    wpAny (model prog w) A (pyNext (.ref it)) Q E s := by
  obtain ⟨hp, g, dr, tk, os⟩ := s
  have hT : Shared.TypeIs ⟨hp, g, dr, tk, os⟩ (.ref it) "dict_itemiterator" := ⟨_, hit, rfl⟩
  unfold pyNext
  refine wpAny_bind (wpAny_attempt (wpAny_callSpecial?_slot (name := Str.ofString "__next__") hT F.slot_dict_itemiterator_next
    (wpAny_call_entry F.slot_dict_itemiterator_next hT F.entry_dict_itemiterator_next ?_ (F.args_dict_itemiterator_next_1 _))))
  refine wpAny_bind (wpAny_pure ?_)
  refine wpAny_bind ?_
  refine wpAny_bind ?_
  refine wpAny_bind (wpAny_typeNameOfWhole_itemiter hT (wpAny_pure ?_))
  refine wpAny_bind (wpAny_fieldsOf hit rfl ?_)
  have hown : Builtin.Dict_items.ownsTuple "dict_itemiterator" = true := by decide
  simp only [hown, if_true]
  show wpAny _ _ (if (Value.ref d == Value.none) = true then _ else _) _ _ _
  rw [if_neg (show ¬ ((Value.ref d == Value.none) = true) from Bool.false_ne_true)]
  refine wpAny_bind (wpAny_pure (wpAny_bind (wpAny_dictEntries ho hdat ?_)))
  rw [if_neg (by simp)]
  refine wpAny_bind (wpAny_pure (wpAny_bind (wpAny_dictEpoch ho hdat ?_)))
  rw [if_neg (by simp)]
  refine wpAny_pure ?_
  simp only [show ¬ ((i : Int) < 0) from by omega, if_false, Int.toNat_natCast, hx]
  refine wpAny_bind (wpAny_bind (wpAny_typeNameOfWhole_itemiter hT (wpAny_pure ?_)))
  simp only [hown, if_true]
  refine wpAny_bind (wpAny_isOneOf_itemiter hT ?_)
  show wpAny _ _ (setField (.ref it) 3 (rawInt ((i : Int) + 1)) >>= _) _ _ ⟨hp, g, dr, tk, os⟩
  refine wpAny_bind (wpAny_setField_rec hit (by simp) fun h₁ he₁ hs₁ => ?_)
  replace hs₁ : Heap.SameBut it hp h₁ := hs₁
  replace he₁ : IsItemIter h₁ it d (i + 1) es.size ep ok ov := by
    have e : ((i + 1 : Nat) : Int) = (i : Int) + 1 := by omega
    unfold IsItemIter; rw [e]; simpa [rawInt] using he₁
  have hT₁ : Shared.TypeIs ⟨h₁, g, dr, tk, os⟩ (.ref it) "dict_itemiterator" := ⟨_, he₁, rfl⟩
  refine wpAny_bind (wpAny_holding ?_)
  refine wpAny_bind (wpAny_isOneOf_itemiter hT₁ ?_)
  refine wpAny_bind (wpAny_isOneOf_itemiter hT₁ ?_)
  show wpAny _ _ (Builtin.Dict_items.pairFromOwner (.ref it) 6 e.key e.val) _ _ ⟨h₁, g, dr, tk, os⟩
  unfold Builtin.Dict_items.pairFromOwner
  refine wpAny_bind (wpAny_newTuple ?_)
  have he₂ : IsItemIter (h₁.push { cls := .type "tuple", data := .seq #[e.key, e.val] }) it d (i + 1) es.size ep ok ov := Heap.get?_push_of_some _ he₁
  generalize hh₂ : h₁.push { cls := .type "tuple", data := .seq #[e.key, e.val] } = h₂ at he₂
  have hz₁ : h₁.objs.size = hp.objs.size := hs₁.1
  have hil : it < hp.objs.size := Heap.lt_size hit
  have ht₂ : h₂.get? hp.objs.size = some { cls := .type "tuple", data := .seq #[e.key, e.val] } := by rw [← hh₂, ← hz₁]; exact Heap.get?_push_size _ rfl
  have hz₂ : h₂.objs.size = hp.objs.size + 1 := by rw [← hh₂, Heap.size_push, hz₁]
  have hk₂ : ∀ b o, b ≠ it → hp.get? b = some o → h₂.get? b = some o := fun b o hb e => by rw [← hh₂]; exact Heap.get?_push_of_some _ (hs₁.extBut b o hb e)
  show wpAny _ _ (Builtin.Dict_items.ownedTupleIsFree (.ref it) >>= _) _ _ ⟨h₂, g, dr, tk, os⟩
  rw [hz₁]
  clear hh₂ he₁ hs₁ hT₁ hz₁ h₁
  refine wpAny_bind ?_
  unfold Builtin.Dict_items.ownedTupleIsFree
  refine wpAny_bind (wpAny_field he₂ rfl (x := .none) rfl (wpAny_pure ?_))
  simp only [if_true]
  refine wpAny_bind (wpAny_field he₂ rfl (x := ok) rfl ?_)
  refine wpAny_bind (wpAny_field he₂ rfl (x := ov) rfl ?_)
  refine wpAny_bind (wpAny_setField_rec he₂ (by simp) fun h₃ he₃ hs₃ => ?_)
  replace hs₃ : Heap.SameBut it h₂ h₃ := hs₃
  replace he₃ : IsItemIter h₃ it d (i + 1) es.size ep e.key ov := he₃
  refine wpAny_bind (wpAny_setField_rec he₃ (by simp) fun h₄ he₄ hs₄ => ?_)
  replace hs₄ : Heap.SameBut it h₃ h₄ := hs₄
  replace he₄ : IsItemIter h₄ it d (i + 1) es.size ep e.key e.val := he₄
  refine wpAny_bind (wpAny_setField_rec he₄ (by simp) fun h₅ he₅ hs₅ => ?_)
  replace hs₅ : Heap.SameBut it h₄ h₅ := hs₅
  replace he₅ : IsItemIterOut h₅ it d (i + 1) es.size ep e.key e.val hp.objs.size := he₅
  refine wpAny_bind (wpAny_setField_rec he₅ (by simp) fun h₆ he₆ hs₆ => ?_)
  replace hs₆ : Heap.SameBut it h₅ h₆ := hs₆
  replace he₆ : IsItemIterOut h₆ it d (i + 1) es.size ep e.key e.val hp.objs.size := he₆
  have ks : Heap.SameBut it h₂ h₆ := ((hs₃.trans hs₄).trans hs₅).trans hs₆
  refine wpAny_bind (wpAny_letGo (wpAny_pure (wpAny_pure ⟨_, rfl, wpAny_pure (hQ h₆ he₆ ?_ ?_ ?_)⟩)))
  · exact ks.extBut _ _ (Nat.ne_of_gt hil) ht₂
  · show h₆.objs.size = hp.objs.size + 1
    rw [ks.1, hz₂]
  · exact fun b o hb e => ks.extBut b o hb (hk₂ b o hb e)
theorem fi_end {it d : Addr} {i ep : Nat} {ok ov : Value} {Q : Option Value → Shared → Prop} (hh : A.handled = none) (hit : IsItemIter s.heap it d i es.size ep ok ov)
    (ho : s.heap.get? d = some od) (hdat : od.data = .dict es ep) (hx : es[i]? = none)
    (hQ : ∀ h', Heap.ExtBut it s.heap h' → Q none { s with heap := h' }) : wpAny (model prog w) A (pyNext (.ref it)) Q E s := by
  have hT : s.TypeIs (.ref it) "dict_itemiterator" := ⟨_, hit, rfl⟩
  unfold pyNext
  refine wpAny_bind (wpAny_attempt (wpAny_callSpecial?_slot (name := Str.ofString "__next__") hT F.slot_dict_itemiterator_next
    (wpAny_call_entry F.slot_dict_itemiterator_next hT F.entry_dict_itemiterator_next ?_ (F.args_dict_itemiterator_next_1 _))))
  refine wpAny_bind (wpAny_pure ?_)
  refine wpAny_bind ?_
  refine wpAny_bind ?_
  refine wpAny_bind (wpAny_typeNameOfWhole_itemiter hT (wpAny_pure ?_))
  refine wpAny_bind (wpAny_fieldsOf hit rfl ?_)
  have hown : Builtin.Dict_items.ownsTuple "dict_itemiterator" = true := by decide
  simp only [hown, if_true]
  show wpAny _ _ (if (Value.ref d == Value.none) = true then _ else _) _ _ _
  rw [if_neg (show ¬ ((Value.ref d == Value.none) = true) from Bool.false_ne_true)]
  refine wpAny_bind (wpAny_pure (wpAny_bind (wpAny_dictEntries ho hdat ?_)))
  rw [if_neg (by simp)]
  refine wpAny_bind (wpAny_pure (wpAny_bind (wpAny_dictEpoch ho hdat ?_)))
  rw [if_neg (by simp)]
  refine wpAny_pure ?_
  simp only [show ¬ ((i : Int) < 0) from by omega, if_false, Int.toNat_natCast, hx]
  refine wpAny_bind (wpAny_bind (wpAny_typeNameOfWhole_itemiter hT (wpAny_pure ?_)))
  simp only [hown, if_true]
  show wpAny _ _ (setField (.ref it) 2 .none >>= _) _ _ s
  refine wpAny_bind (wpAny_setField hit rfl (by simp) ?_)
  show wpAny _ _ (newExc (.type "StopIteration") [] >>= _) _ _ _
  refine wpAny_bind ?_
  simp only [newExc, newTuple]
  refine wpAny_bind (wpAny_newObj_type ?_ (by size_fits))
  refine wpAny_bind (m := firstArgMember _ _) (wpAny_of_eq (a := Value.none) (by first | rfl | (simp only [firstArgMember]; rfl)) ?_)
  refine wpAny_newObj_type ?_ (by size_fits)
  simp only [raiseNew]
  refine wpAny_bind (wpAny_handled ?_)
  rw [show A.in1.handled = none from hh]
  refine wpAny_bind (wpAny_pure (wpAny_throw ?_))
  refine wpAny_bind (wpAny_isInstance (T := "StopIteration") (b := true) ⟨_, Heap.get?_push_size _ rfl, rfl⟩ isSubtype_stop ?_)
  exact wpAny_pure (hQ _ (((Heap.SameBut.update ..).extBut.push _).push _))
theorem fi_turns {elts : List Expr} {kk : Nat} {pos : Pos} (hh : A.handled = none) (I d : Addr) (hne : d ≠ I) (ep : Nat) (hdat : od.data = .dict es ep) :
    KTurns prog w A (.Tuple elts kk pos) I [I, d] [I] es.size
      (fun i v h => ∃ T e, v = .ref T ∧ es[i]? = some e ∧ h.IsTuple T #[e.key, e.val])
      (fun i v h => ∃ T e ok ov, v = .ref T ∧ es[i]? = some e ∧ h.IsTuple T #[e.key, e.val] ∧ IsItemIterOut h I d (i + 1) es.size ep ok ov T ∧ h.get? d = some od ∧ T ≠ I)
      (fun i h => (∃ ok ov, IsItemIter h I d i es.size ep ok ov) ∧ h.get? d = some od) where
  sub := fun b hb => by simp at hb; simp [hb]
  frame := fun i h h' st hk => by
    obtain ⟨⟨ok, ov, he⟩, hm⟩ := st
    exact ⟨⟨ok, ov, hk I (by simp) _ he⟩, hk d (by simp) _ hm⟩
  item := fun i s Q E hi st hQ => by
    obtain ⟨⟨ok, ov, he⟩, hm⟩ := st
    have hx : es[i]? = some es[i] := by simp [hi]
    refine fi_next he hm hdat hx fun h' ho hT hsz hk => ?_
    exact hQ (.ref s.heap.objs.size) h' s.toks ⟨s.heap.objs.size, es[i], _, _, rfl, hx, ⟨_, hT, rfl, _, rfl⟩, ho, hk d _ hne hm, Nat.ne_of_gt (Heap.lt_size he)⟩ fun b o hb e => hk b o (fun h => hb (by simp [h])) e
  go := fun i v s Q E hm hQ => by
    obtain ⟨T, e, ok, ov, rfl, hx, hT, ho, hd, hTI⟩ := hm
    refine wpAny_letOwnedTupleGo_items ho fun h' he hs => ?_
    exact hQ h' ⟨T, e, rfl, hx, hT.at fun o e => hs.extBut T o hTI e⟩ ⟨⟨ok, ov, he⟩, hs.extBut d _ hne hd⟩ fun b o hb e => hs.extBut b o (fun h => hb (by simp [h])) e
  done := fun s Q E st hQ => by
    obtain ⟨⟨ok, ov, he⟩, hm⟩ := st
    exact fi_end hh he hm hdat (by simp) fun h' hx => hQ h' s.toks fun b o hb e => hx b o (fun h => hb (by simp [h])) e
end
end
section
set_option maxHeartbeats 400000
theorem esOf_size (w : World) (kids : List Kid) : (esOf w kids).size = kids.length := by unfold esOf; simp
section
variable {prog : Program} {w : World} {A : Around} {E : Value → Shared → Prop} {s : Shared} {env : Env} {g : Heap} {target : Expr} {body : List Stmt} {Q : Flow → Shared → Prop}
theorem turns_core {σ : Type} {I : Addr} {src : List (Addr × Obj)} {n : Nat} {PV Md : Nat → Value → Heap → Prop} {St : Nat → Heap → Prop} {icls : String} {m₀ : Str → Option Value} {news : List (Addr × Obj)}
    (Led : σ → List (Addr × Obj)) (ps : σ → List (Str × Value)) (P : Nat → σ → Prop) (c₀ : σ)
    (W : KTurns prog w A target I (I :: src.map (·.1)) [I] n PV Md St)
    (hob : ∀ i h, St i h → ∃ o, h.get? I = some o ∧ o.cls = .type icls)
    (hsrc : ∀ q ∈ src, (∀ c, q ∈ Led c) ∨ g.get? q.1 = some q.2)
    (hst : St 0 s.heap) (hI : g.get? I = none) (hLI : env.locals ≠ I) (hLs : ∀ q ∈ src, env.locals ≠ q.1)
    (F : Fr g env.locals s.heap m₀) (N : News g env.locals s.heap news) (h1 : ∀ p ∈ Led c₀, p ∈ news) (h2 : Off icls (Led c₀)) (h3 : AllAt m₀ (ps c₀)) (h4 : P 0 c₀)
    (hIn : ∀ p ∈ news, p.1 ≠ I)
    (turn : ∀ i v c h tk it u, i < n → PV i v h → P i c → Fr g env.locals h (chain (ps c) u) → News g env.locals h ((I, it) :: Led c) → it.cls = .type icls → AllNe I (Led c) →
      wpAny (model prog w) A (assign target env v) (fun _ s₃ => wpAny (model prog w) A (execs body env) (TPost g env.locals Led ps (P (i + 1)) icls (I, it) { s with heap := h, toks := tk } Q) E s₃) E { s with heap := h, toks := tk })
    (done : ∀ c h tk u, P n c → Fr g env.locals h (chain (ps c) u) → News g env.locals h (Led c) → Q .next { s with heap := h, toks := tk }) :
    TurnsAt prog w A g env target body Q E (.ref I) s := by
  refine ⟨I, _, [I], n, PV, Md, St, m₀, Led c₀, (fun i m nx => ∃ c, nx = Led c ∧ AllAt m (ps c) ∧ P i c ∧ Off icls (Led c)), rfl, W, ?_, ?_, ?_, hst, F, (fun p hp => N p (h1 p hp)), ⟨c₀, rfl, h3, h4, h2⟩, ?_, ?_⟩
  · intro hm
    rcases List.mem_cons.mp hm with e | hm
    · exact hLI e
    · obtain ⟨q, hq, e⟩ := List.mem_map.mp hm
      exact hLs q hq e.symm
  · intro b hb
    rw [List.mem_singleton.mp hb]; exact hI
  · intro p hp hb
    exact hIn p (h1 p hp) (List.mem_singleton.mp hb)
  · rintro i v m₁ news₁ hh tk own hi hP ⟨c, rfl, hps, hPc, hoff⟩ hnw hown hget hall hst₁ F₁ N₁
    obtain ⟨it, hit, hcl⟩ := hob _ _ hst₁
    have hio : (I, it) ∈ own := hall I (.head _) hI it hit
    have F₂ : Fr g env.locals hh (chain (ps c) m₁) := by rw [chain_of hps]; exact F₁
    have N₂ : News g env.locals hh ((I, it) :: Led c) := fun p hp => by
      rcases List.mem_cons.mp hp with rfl | hp
      · exact N₁ _ (List.mem_append_left _ hio)
      · exact N₁ _ (List.mem_append_right _ hp)
    refine wpAny_mono (turn i v c hh tk it m₁ hi hP hPc F₂ N₂ hcl (allNe_of fun p hp e => hnw p hp (by rw [e]; exact .head _))) (fun _ s₃ p3 => wpAny_mono p3 (fun f s₂ p => ?_) fun _ _ e => e) fun _ _ e => e
    have fin : TEnd g env.locals Led ps (P (i + 1)) icls (I, it) { s with heap := hh, toks := tk } s₂ →
        LoopStepU g env.locals [I] own (fun m nx => ∃ c, nx = Led c ∧ AllAt m (ps c) ∧ P (i + 1) c ∧ Off icls (Led c)) { s with heap := hh, toks := tk } .next s₂ := by
      rintro ⟨c', h', tk', m', news', rfl, F', N', hsub, hit', hoff', hps', hP'⟩
      refine ⟨rfl, h', tk', m', Led c', rfl, F', fun p hp => ?_, fun p hp hb => ?_, c', rfl, hps', hP', hoff'⟩
      · rcases List.mem_append.mp hp with hp | hp
        · rcases List.mem_cons.mp (hown p hp) with e | hq
          · have h5 := hget p hp
            have h6 : p = (I, it) := Prod.ext e (by
              have h7 : hh.get? p.1 = some p.2 := h5
              rw [e, hit] at h7; exact (Option.some.inj h7).symm)
            rw [h6]; exact N' _ hit'
          · obtain ⟨q, hq, e⟩ := List.mem_map.mp hq
            have h5 : hh.get? p.1 = some p.2 := hget p hp
            rcases hsrc q hq with h7 | h7
            · have h8 := (N₁ q (List.mem_append_right _ (h7 c))).1
              have h9 : p = q := Prod.ext e.symm (by rw [← e] at h5; rw [show hh.get? q.1 = some q.2 from h8] at h5; exact (Option.some.inj h5).symm)
              rw [h9]; exact N' _ (hsub.mem q (h7 c'))
            · have h8 := (N₁ p (List.mem_append_left _ hp)).2.2
              rw [← e, h7] at h8; cases h8
        · exact N' p (hsub.mem p hp)
      · have e : p.1 = I := List.mem_singleton.mp hb
        have h5 := (N' p (hsub.mem p hp)).1
        rw [e, (N' _ hit').1] at h5
        have h6 : p.2 = it := (Option.some.inj h5).symm
        exact hoff'.ne p hp (by rw [h6]; exact hcl)
    cases f with
    | ret v => exact p
    | brk => exact p
    | next => exact fin p
    | cont => exact fin p
  · rintro h' tk m' news' F' N' _ ⟨c, rfl, hps, hP, _⟩
    refine done c h' tk m' hP ?_ N'
    rw [chain_of hps]; exact F'

theorem for_items {σ : Type} {elts : List Expr} {kk : Nat} {pos : Pos} {x C dx f vw : Addr} {kids : List Kid} {n : Nat} {m₀ : Str → Option Value} {news : List (Addr × Obj)}
    (Led : σ → List (Addr × Obj)) (ps : σ → List (Str × Value)) (P : Nat → σ → Prop) (c₀ : σ)
    (hh : A.handled = none) (hv : s.heap.IsItemsView vw x) (hsrc : Stands g Led (x, foldObj w C dx f kids n))
    (F : Fr g env.locals s.heap m₀) (N : News g env.locals s.heap news) (h1 : Sub news (Led c₀)) (h2 : Off "dict_itemiterator" (Led c₀)) (h3 : AllAt m₀ (ps c₀)) (h4 : P 0 c₀)
    (turn : ∀ i y t v c h tk I it u T, kids[i]? = some (y, t, v) → P i c → IsTup h T #[.str y t, v] → Fr g env.locals h (chain (ps c) u) → News g env.locals h ((I, it) :: Led c) → it.cls = .type "dict_itemiterator" → AllNe I (Led c) →
      wpAny (model prog w) A (assign (.Tuple elts kk pos) env (.ref T)) (fun _ s₃ => wpAny (model prog w) A (execs body env) (TPost g env.locals Led ps (P (i + 1)) "dict_itemiterator" (I, it) { s with heap := h, toks := tk } Q) E s₃) E { s with heap := h, toks := tk })
    (done : ∀ c h tk u, P kids.length c → Fr g env.locals h (chain (ps c) u) → News g env.locals h (Led c) → Q .next { s with heap := h, toks := tk }) :
    wpAny (model prog w) A (pyIter (.ref vw)) (fun it s₂ => TurnsAt prog w A g env (.Tuple elts kk pos) body Q E it s₂) E s := by
  obtain ⟨hol, hlL⟩ := hsrc.now F N c₀ h1.mem
  have hne : x ≠ s.heap.objs.size := Nat.ne_of_lt (Heap.lt_size hol)
  refine fi_iter hv hol rfl ?_
  have W := fi_turns (prog := prog) (w := w) (A := A) (od := foldObj w C dx f kids n) (es := esOf w kids) (elts := elts) (kk := kk) (pos := pos) hh s.heap.objs.size x hne n rfl
  rw [esOf_size] at W ⊢
  refine turns_core (s := { s with heap := s.heap.push _ }) (src := [(x, foldObj w C dx f kids n)]) (icls := "dict_itemiterator") Led ps P c₀ W ?_ ?_ ⟨⟨.none, .none, Heap.get?_push_size _ rfl⟩, Heap.get?_push_of_some _ hol⟩ (next_is_new F) (Nat.ne_of_lt F.ns.lt) ?_ (F.push _) (fun p hp => ⟨Heap.get?_push_of_some _ (N p hp).1, (N p hp).2⟩) h1.mem h2 h3 h4 ?_ ?_ ?_
  · rintro i h ⟨⟨ok, ov, a⟩, _⟩; exact ⟨_, a, rfl⟩
  · intro q hq; rw [List.mem_singleton.mp hq]; exact hsrc
  · intro q hq; rw [List.mem_singleton.mp hq]; exact fun e => hlL e.symm
  · intro p hp e; exact absurd (Heap.lt_size (N p hp).1) (e ▸ Nat.lt_irrefl _)
  · rintro i v c h tk it u hi ⟨T, e, rfl, he, hT⟩ hPc F' N' hcl hne
    unfold esOf at he
    rw [List.getElem?_toArray, List.getElem?_map] at he
    obtain ⟨⟨y, t, v⟩, hk, rfl⟩ := Option.map_eq_some_iff.mp he
    exact turn i y t v c h tk _ it u T hk hPc hT F' N' hcl hne
  · exact fun c h tk u a b d => done c h tk u a b d
end
end
section
set_option maxHeartbeats 400000
/-- the signs of a text -/
noncomputable abbrev C (x : Str) : List Nat := x.cps.toList
noncomputable abbrev mkS (l : List Nat) : Str := ⟨l.toArray⟩
noncomputable abbrev sl : Str := Str.ofString "/"
theorem C_inj {x y : Str} (h : C x = C y) : x = y := by
  refine PySem.Str.ext' ?_
  exact Array.toList_inj.mp h
theorem C_app (x y : Str) : C (x ++ y) = C x ++ C y := by
  show (x ++ y).cps.toList = _
  rw [PySem.Str.cps_append, Array.toList_append]
theorem C_sl : C sl = [47] := by decide +kernel
theorem sl_eq : sl = ⟨#[47]⟩ := by decide +kernel
theorem C_mk (l : List Nat) : C (mkS l) = l := by simp [C, mkS]
theorem mk_C (x : Str) : mkS (C x) = x := C_inj (C_mk _)
theorem C_len (x : Str) : (C x).length = x.length := by simp [C, PySem.Str.length]
theorem C_empty : C Str.empty = [] := by decide +kernel
theorem C_to (x : Str) (i : Nat) (h : i ≤ x.length) : C (Txt.slice x none (some (i : Int))) = (C x).take i := by
  have e : Txt.slice x none (some (i : Int)) = _ := StrLaws.sliceText_to (x := x) (j := i) ⟨by omega, by show (i : Int) ≤ ((C x).length : Nat); rw [C_len]; omega⟩
  rw [e]
  simp [C]
theorem C_from (x : Str) (i : Nat) (h : i ≤ x.length) : C (Txt.slice x (some (i : Int)) none) = (C x).drop i := by
  have e : Txt.slice x (some (i : Int)) none = _ := StrLaws.sliceText_from (x := x) (i := i) ⟨by omega, by show (i : Int) ≤ ((C x).length : Nat); rw [C_len]; omega⟩
  rw [e]
  show C (mkS _) = _
  rw [C_mk]
  have : (((C x).length : Int) - (i : Int)).toNat = (C x).length - i := Int.toNat_sub _ _
  rw [show ((x.cps.toList.length : Int) - (i : Int)).toNat = (C x).length - i from this, Int.toNat_natCast]
  exact List.take_of_length_le (by simp)
theorem C_mid (x : Str) (i j : Nat) (hij : i ≤ j) (h : j ≤ x.length) : C (Txt.slice x (some (i : Int)) (some (j : Int))) = ((C x).drop i).take (j - i) := by
  have e : Txt.slice x (some (i : Int)) (some (j : Int)) = _ := StrLaws.sliceText_plain (x := x) (i := i) (j := j) ⟨by omega, by omega, by show (j : Int) ≤ ((C x).length : Nat); rw [C_len]; omega⟩
  rw [e]
  show C (mkS _) = _
  rw [C_mk]
  have : ((j : Int) - (i : Int)).toNat = j - i := Int.toNat_sub _ _
  rw [this, Int.toNat_natCast]
theorem starts_iff (b : Str) : Txt.startswith b sl = true ↔ (C b).head? = some 47 := by
  have h := StrLaws.subAt_one b 47 0
  unfold Txt.startswith
  rw [sl_eq, Bool.and_eq_true, decide_eq_true_eq, h]
  rw [List.head?_eq_getElem?]
theorem ends_iff (b : Str) : Txt.endswith b sl = true ↔ (C b).getLast? = some 47 := by
  unfold Txt.endswith
  rw [sl_eq, Bool.and_eq_true, decide_eq_true_eq]
  have hl := C_len b
  have e1 : (⟨#[47]⟩ : Str).length = 1 := rfl
  rw [e1]
  by_cases h0 : (C b).length = 0
  · have : C b = [] := List.eq_nil_of_length_eq_zero h0
    rw [this]; simp; omega
  · have h := StrLaws.subAt_one b 47 (b.length - 1)
    rw [e1] at h
    rw [List.getLast?_eq_getElem?, hl]
    have hp : 1 ≤ b.length := Nat.pos_of_ne_zero (hl ▸ h0)
    constructor
    · intro ⟨_, b2⟩; exact h.mp ⟨by rw [Nat.sub_add_cancel hp]; exact Nat.le_refl _, b2⟩
    · intro k; exact ⟨hp, (h.mpr k).2⟩
theorem rfind_at {x : Str} {p n : List Nat} (hx : C x = p ++ 47 :: n) (hn : 47 ∉ n) : Txt.rfind x sl = (p.length : Int) := by
  unfold Txt.rfind
  have hat : ∀ i, StrLaws.At x sl x.length i ↔ (C x)[i]? = some 47 := fun i => by
    rw [sl_eq]; exact StrLaws.subAt_one x 47 i
  have key : ∀ i, (C x)[i]? = some 47 → i ≤ p.length := by
    intro i hi
    rcases Nat.lt_or_ge p.length i with h | h
    · exfalso
      rw [hx, List.getElem?_append_right (Nat.le_of_lt h)] at hi
      obtain ⟨k, hk⟩ : ∃ k, i - p.length = k + 1 := ⟨i - p.length - 1, (Nat.sub_add_cancel (Nat.sub_pos_of_lt h)).symm⟩
      rw [hk, List.getElem?_cons_succ] at hi
      exact hn (List.mem_of_getElem? hi)
    · exact h
  have hp : (C x)[p.length]? = some 47 := by rw [hx]; simp
  rcases StrLaws.last_spec x sl with ⟨h1, h2⟩ | ⟨i, h1, h2, h3⟩
  · exact absurd ((hat _).mpr hp) (h2 _)
  · rw [h1]
    have a := key i ((hat i).mp h2)
    have b : ¬ i < p.length := fun h => h3 _ h ((hat _).mpr hp)
    rw [Nat.le_antisymm a (Nat.not_lt.mp b)]
theorem rstrip_at {x : Str} {p : List Nat} {k : Nat} (hx : C x = p ++ List.replicate k 47) (hp : p.getLast? ≠ some 47) : C (Txt.rstripChars x sl) = p := by
  unfold Txt.rstripChars
  rw [PyProof.Rows.stripBy_eq]
  have hlo : stripLo sl.cps.contains false x = 0 := rfl
  rw [hlo]
  obtain ⟨_, h0, h1, h2⟩ := hi_facts sl.cps.contains x 0 (Nat.zero_le _)
  generalize stripHi sl.cps.contains true x 0 = hi at h0 h1 h2
  have hlen : x.length = p.length + k := by rw [← C_len, hx]; simp
  have hg : ∀ c, sl.cps.contains c = true ↔ c = 47 := fun c => by
    rw [sl_eq]; simp
  have hget : ∀ j, x.cps.getD j 0 = (C x).getD j 0 := fun j => by
    simp [C, List.getD_eq_getElem?_getD]
  have hpl : hi = p.length := by
    rcases Nat.lt_trichotomy hi p.length with h | h | h
    · exfalso
      have := h1 (p.length - 1) (by omega) (by omega)
      rw [hg, hget, hx, List.getD_eq_getElem?_getD, List.getElem?_append_left (by omega)] at this
      apply hp
      rw [List.getLast?_eq_getElem?]
      rw [List.getElem?_eq_getElem (by omega)] at this
      rw [List.getElem?_eq_getElem (by omega)]
      simpa using this
    · exact h
    · exfalso
      rcases h2 with h2 | h2
      · omega
      · have e : x.cps.getD (hi - 1) 0 = 47 := by
          rw [hget, hx, List.getD_eq_getElem?_getD, List.getElem?_append_right (by omega), List.getElem?_replicate, if_pos (by omega)]
          rfl
        rw [e] at h2
        have : sl.cps.contains 47 = true := (hg 47).mpr rfl
        rw [this] at h2; cases h2
  show (Builtin.Str.strSub x 0 hi).cps.toList = p
  rw [StrLaws.strSub_toList, hpl]
  show ((C x).drop 0).take (p.length - 0) = p
  rw [hx]; simp
end
section
set_option maxHeartbeats 400000
/-- cut at each slash -/
noncomputable def sp : List Nat → List (List Nat)
  | [] => [[]]
  | c :: r => if c = 47 then [] :: sp r else match sp r with
    | h :: t => (c :: h) :: t
    | [] => [[c]]
theorem sp_ne (l : List Nat) : sp l ≠ [] := by
  cases l with
  | nil => simp [sp]
  | cons c r =>
    rw [sp]
    split
    · simp
    · split <;> simp
theorem sp_free {p : List Nat} (h : 47 ∉ p) : sp p = [p] := by
  induction p with
  | nil => rfl
  | cons c r ih =>
    have h1 : c ≠ 47 := fun e => h (by rw [e]; exact .head _)
    have h2 : 47 ∉ r := fun e => h (.tail _ e)
    rw [sp, if_neg h1, ih h2]
theorem sp_slash (a b : List Nat) : sp (a ++ 47 :: b) = sp a ++ sp b := by
  induction a with
  | nil => simp [sp]
  | cons c r ih =>
    by_cases hc : c = 47
    · simp [sp, hc, ih]
    · simp only [List.cons_append, sp, if_neg hc, ih]
      cases hs : sp r with
      | nil => exact absurd hs (sp_ne r)
      | cons h t => simp
noncomputable def joinL : List (List Nat) → List Nat
  | [] => []
  | [p] => p
  | p :: q :: r => p ++ 47 :: joinL (q :: r)
theorem C_join (ps : List Str) : C (Str.join sl ps) = joinL (ps.map C) := by
  match ps with
  | [] => exact C_empty
  | [p] => rfl
  | p :: q :: r =>
    show C (p ++ sl ++ Str.join sl (q :: r)) = _
    rw [C_app, C_app, C_sl, C_join (q :: r)]
    simp [joinL]
theorem sp_join : ∀ ps : List (List Nat), ps ≠ [] → (∀ p ∈ ps, 47 ∉ p) → sp (joinL ps) = ps
  | [], h, _ => absurd rfl h
  | [p], _, h => sp_free (h p (.head _))
  | p :: q :: r, _, h => by
    show sp (p ++ 47 :: joinL (q :: r)) = _
    rw [sp_slash, sp_free (h p (.head _)), sp_join (q :: r) (by simp) fun x hx => h x (.tail _ hx)]
    rfl
theorem split_ne (x : Str) : Txt.split x sl ≠ [] := by
  unfold Txt.split
  split
  · simp
  · split
    · simp
    · rename_i h
      intro e
      have := StrLaws.join_split x sl
      unfold Txt.split at this
      rename_i h0
      rw [if_neg h0, if_neg h, e] at this
      have hx : C x = [] := by rw [← this]; exact C_empty
      have hl : x.length = 0 := by rw [← C_len, hx]; rfl
      apply h0
      rw [Bool.or_eq_true, decide_eq_true_eq]
      left
      rw [hl]; decide +kernel
theorem split_sp (x : Str) : (Txt.split x sl).map C = sp (C x) := by
  have h1 := StrLaws.join_split x sl
  have h2 : ∀ p ∈ (Txt.split x sl).map C, 47 ∉ p := by
    intro p hp
    obtain ⟨q, hq, rfl⟩ := List.mem_map.mp hp
    rw [sl_eq] at hq
    exact StrLaws.split_free x 47 q hq
  have h3 := sp_join ((Txt.split x sl).map C) (by simpa using split_ne x) h2
  rw [← C_join, h1] at h3
  exact h3.symm
theorem split_eq (x : Str) : Txt.split x sl = (sp (C x)).map mkS := by
  rw [← split_sp, List.map_map]
  conv => lhs; rw [← List.map_id (Txt.split x sl)]
  exact List.map_congr_left fun y _ => (mk_C y).symm
/-- the parts of a path, as normpath reckons them -/
noncomputable def comps (x : Str) : List Str := (Txt.split x sl).foldl normStep []
theorem foldNorm_sp (cs : List Str) (x : Str) : (Txt.split x sl).foldl normStep cs = ((sp (C x)).map mkS).foldl normStep cs := by rw [split_eq]
theorem normStep_empty (cs : List Str) : normStep cs (mkS []) = cs := normStep_skip (.inl (by decide))
theorem comps_join {p b : Str} (hp : C p ≠ []) :
    comps (joinStep p b) = if (C b).head? = some 47 then comps b else (Txt.split b sl).foldl normStep (comps p) := by
  unfold joinStep
  rw [show Str.ofString "/" = sl from rfl]
  by_cases hb : (C b).head? = some 47
  · rw [if_pos (.inl ((starts_iff b).mpr hb)), if_pos hb]
  · have h0 : p.length ≠ 0 := by rw [← C_len]; intro e; exact hp (List.eq_nil_of_length_eq_zero e)
    rw [if_neg (by rw [starts_iff]; intro h; exact h.elim hb h0), if_neg hb]
    by_cases he : (C p).getLast? = some 47
    · rw [if_pos ((ends_iff p).mpr he)]
      obtain ⟨q, hq⟩ : ∃ q, C p = q ++ [47] := by
        rcases List.eq_nil_or_concat (C p) with e | ⟨q, c, e⟩
        · exact absurd e hp
        · rw [List.concat_eq_append] at e
          rw [e] at he
          have : c = 47 := by simpa using he
          exact ⟨q, by rw [e, this]⟩
      unfold comps
      rw [split_eq (p ++ b), split_eq p, split_eq b, C_app, hq]
      rw [show q ++ [47] ++ C b = q ++ 47 :: C b by simp, sp_slash, show q ++ [47] = q ++ 47 :: [] by simp, sp_slash]
      simp only [List.map_append, List.foldl_append]
      rw [show sp [] = [[]] from rfl]
      simp only [List.map_cons, List.map_nil, List.foldl_cons, List.foldl_nil, normStep_empty]
    · rw [if_neg (by rw [ends_iff]; exact he)]
      unfold comps
      rw [split_eq (p ++ (sl ++ b)), split_eq p, split_eq b, C_app, C_app, C_sl]
      rw [show C p ++ ([47] ++ C b) = C p ++ 47 :: C b by simp, sp_slash]
      simp only [List.map_append, List.foldl_append]
end
section
set_option maxHeartbeats 400000
noncomputable abbrev dot : Str := Str.ofString "."
noncomputable abbrev dd : Str := Str.ofString ".."
structure NameOk (n : Str) : Prop where
  ne : C n ≠ []
  free : 47 ∉ C n
  nd : n ≠ dot
  ndd : n ≠ dd
noncomputable abbrev NamesOk (ns : List Str) : Prop := ∀ n ∈ ns, NameOk n
noncomputable def pathR (r : Str) (ns : List Str) : Str := r ++ Str.join sl ns
noncomputable def RootOk (r : Str) : Prop := r = sl ∨ r = Str.ofString "//"
theorem C_dsl : C (Str.ofString "//") = [47, 47] := by decide +kernel
theorem C_root {r : Str} (h : RootOk r) : ∃ k, C r = List.replicate (k + 1) 47 ∧ k ≤ 1 := by
  rcases h with rfl | rfl
  · exact ⟨0, C_sl, by omega⟩
  · exact ⟨1, C_dsl, by omega⟩
theorem joinL_snoc : ∀ (ps : List (List Nat)) (n : List Nat), ps ≠ [] → joinL (ps ++ [n]) = joinL ps ++ 47 :: n
  | [], _, h => absurd rfl h
  | [p], n, _ => rfl
  | p :: q :: r, n, _ => by
    show p ++ 47 :: joinL ((q :: r) ++ [n]) = (p ++ 47 :: joinL (q :: r)) ++ 47 :: n
    rw [joinL_snoc (q :: r) n (by simp)]; simp
theorem joinL_last {ns : List Str} (h : NamesOk ns) (hne : ns ≠ []) : (joinL (ns.map C)).getLast? ≠ some 47 := by
  rcases lsnoc ns with rfl | ⟨a, b, rfl⟩
  · exact absurd rfl hne
  · have hb := h b (by simp)
    have key : ∀ q : List Nat, (q ++ C b).getLast? ≠ some 47 := fun q => by
      rcases lsnoc (C b) with e | ⟨u, c, e⟩
      · exact absurd e hb.ne
      · rw [e, ← List.append_assoc, List.getLast?_append]
        intro hc
        have hc2 : c = 47 := by simpa using hc
        apply hb.free
        rw [e, hc2]; simp
    cases a with
    | nil => simpa [joinL] using key []
    | cons a r =>
      rw [List.map_append, List.map_singleton, joinL_snoc _ _ (by simp)]
      have := key (joinL ((a :: r).map C) ++ [47])
      simpa using this
theorem C_path (r : Str) (ns : List Str) : C (pathR r ns) = C r ++ joinL (ns.map C) := by
  unfold pathR
  rw [C_app, C_join]
theorem path_ne {r : Str} (h : RootOk r) (ns : List Str) : C (pathR r ns) ≠ [] := by
  obtain ⟨k, hk, _⟩ := C_root h
  rw [C_path, hk]; simp [List.replicate_succ]
theorem path_len0 {r : Str} (h : RootOk r) (ns : List Str) : (pathR r ns).length ≠ 0 := by
  rw [← C_len]
  intro e
  exact path_ne h ns (List.eq_nil_of_length_eq_zero e)
theorem mul_sl (k : Nat) : C (Txt.mul sl (k : Int)) = List.replicate k 47 := by
  unfold Txt.mul
  by_cases h : (k : Int) < 1
  · have : k = 0 := by omega
    rw [if_pos h, this]; exact C_empty
  · rw [if_neg h]
    by_cases h2 : k = 1
    · rw [if_pos (by rw [h2]; rfl), C_sl, h2]; rfl
    · rw [if_neg (by have : sl.length = 1 := slash_len; rw [this]; simp; omega)]
      show ((List.replicate (k : Int).toNat sl.cps).foldl (· ++ ·) #[]).toList = _
      rw [Int.toNat_natCast, show sl.cps = #[47] from by rw [sl_eq]]
      have key : ∀ (k : Nat) (a : Array Nat), ((List.replicate k (#[47] : Array Nat)).foldl (· ++ ·) a).toList = a.toList ++ List.replicate k 47 := by
        intro k
        induction k with
        | zero => intro a; simp
        | succ k ih => intro a; rw [List.replicate_succ, List.foldl_cons, ih]; simp [List.replicate_succ]
      rw [key]; simp
theorem bne_iff {a b : Str} : (a != b) = true ↔ a ≠ b := by simp
theorem splitS_of {x : Str} {p n : List Nat} (hx : C x = p ++ 47 :: n) (hn : 47 ∉ n) :
    splitS x = (if p ++ [47] = List.replicate (p.length + 1) 47 then mkS (p ++ [47]) else Txt.rstripChars (mkS (p ++ [47])) sl, mkS n) := by
  have hlen : x.length = p.length + 1 + n.length := by rw [← C_len, hx]; simp; omega
  have hi : Txt.rfind x (Str.ofString "/") + 1 = ((p.length + 1 : Nat) : Int) := by rw [show Str.ofString "/" = sl from rfl, rfind_at hx hn]; omega
  have hh : Txt.slice x none (some ((p.length + 1 : Nat) : Int)) = mkS (p ++ [47]) := C_inj (by rw [C_to _ _ (by omega), hx, C_mk]; simp [List.take_append]; exact List.take_of_length_le (by omega))
  have ht : Txt.slice x (some ((p.length + 1 : Nat) : Int)) none = mkS n := C_inj (by rw [C_from _ _ (by omega), hx, C_mk]; simp [List.drop_append])
  unfold splitS
  rw [hi]
  dsimp only
  rw [hh, ht]
  have hl : (mkS (p ++ [47])).length = p.length + 1 := by rw [← C_len, C_mk]; simp
  rw [hl, if_neg (by omega)]
  have hm : Txt.mul sl ((p.length + 1 : Nat) : Int) = mkS (List.replicate (p.length + 1) 47) := C_inj (by rw [mul_sl, C_mk])
  rw [show Str.ofString "/" = sl from rfl, hm]
  by_cases e : p ++ [47] = List.replicate (p.length + 1) 47
  · rw [if_pos e, if_neg (by rw [e]; simp)]
  · rw [if_neg e, if_pos (by rw [bne_iff]; intro h; exact e (by have := congrArg C h; rwa [C_mk, C_mk] at this))]
theorem splitS_root {r : Str} (h : RootOk r) : splitS (pathR r []) = (pathR r [], Str.empty) := by
  obtain ⟨k, hk, hk1⟩ := C_root h
  have hx : C (pathR r []) = List.replicate k 47 ++ 47 :: [] := by
    rw [C_path, hk]
    simp only [List.map_nil, joinL, List.append_nil]
    rw [List.replicate_succ']
  rw [splitS_of hx (by simp)]
  rw [List.length_replicate, if_pos (by rw [List.replicate_succ'])]
  refine Prod.ext (C_inj ?_) (C_inj ?_)
  · dsimp only; rw [C_mk, hx]
  · dsimp only; rw [C_mk]; exact C_empty.symm
theorem joinL_ne {ps : List (List Nat)} (h : ∀ p ∈ ps, p ≠ []) (hne : ps ≠ []) : joinL ps ≠ [] := by
  match ps with
  | [] => exact absurd rfl hne
  | [p] => exact h p (.head _)
  | p :: q :: r => simp [joinL]
theorem splitS_snoc {r : Str} (h : RootOk r) {ns : List Str} {n : Str} (ok : NamesOk (ns ++ [n])) : splitS (pathR r (ns ++ [n])) = (pathR r ns, n) := by
  obtain ⟨k, hk, hk1⟩ := C_root h
  have okn := ok n (by simp)
  have oks : NamesOk ns := fun m hm => ok m (by simp [hm])
  cases hns : ns with
  | nil =>
    have hx : C (pathR r ([] ++ [n])) = List.replicate k 47 ++ 47 :: C n := by
      rw [C_path, hk, List.replicate_succ']; simp [joinL]
    rw [splitS_of hx okn.free, List.length_replicate, if_pos (by rw [List.replicate_succ'])]
    refine Prod.ext (C_inj ?_) (mk_C n)
    dsimp only
    rw [C_mk, C_path, hk, List.replicate_succ']; simp [joinL]
  | cons a b =>
    rw [← hns]
    have hne : ns.map C ≠ [] := by rw [hns]; simp
    have hx : C (pathR r (ns ++ [n])) = (C r ++ joinL (ns.map C)) ++ 47 :: C n := by
      rw [C_path, List.map_append, List.map_singleton, joinL_snoc _ _ hne]; simp
    have hlast : (C r ++ joinL (ns.map C)).getLast? ≠ some 47 := by
      rw [List.getLast?_append]
      have h1 := joinL_last oks (by rw [hns]; simp)
      have h2 : joinL (ns.map C) ≠ [] := joinL_ne (fun p hp => by obtain ⟨q, hq, rfl⟩ := List.mem_map.mp hp; exact (oks q hq).ne) hne
      cases e : (joinL (ns.map C)).getLast? with
      | none => exact absurd (List.getLast?_eq_none_iff.mp e) h2
      | some c => rw [e] at h1; simpa using h1
    rw [splitS_of hx okn.free, if_neg ?_]
    · refine Prod.ext (C_inj ?_) (mk_C n)
      dsimp only
      rw [rstrip_at (k := 1) (by rw [C_mk]; rfl) hlast, C_path]
    · intro e
      apply hlast
      have e2 : C r ++ joinL (ns.map C) = List.replicate (C r ++ joinL (ns.map C)).length 47 := by
        have := congrArg List.dropLast e
        simpa [List.dropLast_concat, List.replicate_succ'] using this
      rw [e2, hk]
      generalize hL : (List.replicate (k + 1) 47 ++ joinL (ns.map C)).length = m
      have : m ≠ 0 := by rw [← hL]; simp
      cases m with
      | zero => exact absurd rfl this
      | succ m => rw [List.replicate_succ']; simp

theorem normStep_ok (cs : List Str) {n : Str} (h : NameOk n) : normStep cs n = cs ++ [n] :=
  normStep_in (by have := h.ne; intro e; exact this (List.eq_nil_of_length_eq_zero (by rw [C_len]; omega))) (by simpa using h.nd) (by simpa using h.ndd)
theorem foldNorm_ok : ∀ (ns cs : List Str), NamesOk ns → ns.foldl normStep cs = cs ++ ns
  | [], cs, _ => by simp
  | n :: r, cs, h => by
    rw [List.foldl_cons, normStep_ok cs (h n (.head _)), foldNorm_ok r _ fun m hm => h m (.tail _ hm)]
    simp
theorem foldNorm_skip : ∀ (ps : List (List Nat)) (cs : List Str), (∀ p ∈ ps, p = []) → (ps.map mkS).foldl normStep cs = cs
  | [], _, _ => rfl
  | p :: r, cs, h => by
    rw [List.map_cons, List.foldl_cons, h p (.head _), normStep_empty]
    exact foldNorm_skip r cs fun q hq => h q (.tail _ hq)
theorem sp_rep (k : Nat) (b : List Nat) : sp (List.replicate k 47 ++ b) = List.replicate k [] ++ sp b := by
  induction k with
  | zero => rfl
  | succ k ih => simp [List.replicate_succ, sp, ih]
theorem comps_path {r : Str} (h : RootOk r) {ns : List Str} (ok : NamesOk ns) : comps (pathR r ns) = ns := by
  obtain ⟨k, hk, hk1⟩ := C_root h
  unfold comps
  rw [split_eq, C_path, hk, sp_rep, List.map_append, List.foldl_append, foldNorm_skip _ _ (fun p hp => (List.mem_replicate.mp hp).2)]
  cases hns : ns with
  | nil => simp [joinL, sp, normStep_empty]
  | cons a b =>
    rw [← hns, sp_join (ns.map C) (by rw [hns]; simp) (fun p hp => by obtain ⟨q, hq, rfl⟩ := List.mem_map.mp hp; exact (ok q hq).free), List.map_map]
    have : ns.map (mkS ∘ C) = ns := by
      conv => rhs; rw [← List.map_id ns]
      exact List.map_congr_left fun y _ => mk_C y
    rw [this, foldNorm_ok ns [] ok]; rfl
theorem path_inj {r : Str} (h : RootOk r) {a b : List Str} (ha : NamesOk a) (hb : NamesOk b) (e : pathR r a = pathR r b) : a = b := by
  rw [← comps_path h ha, e, comps_path h hb]

open Classical in
noncomputable def rootOf (x : Str) : Str := if ∃ r, C x = 47 :: 47 :: r ∧ r.head? ≠ some 47 then Str.ofString "//" else sl
theorem rootOf_ok (x : Str) : RootOk (rootOf x) := by
  unfold rootOf
  split
  · exact .inr rfl
  · exact .inl rfl
theorem str_eq_iff {a b : Str} : a = b ↔ C a = C b := ⟨congrArg C, C_inj⟩
theorem slice1 (x : Str) : C (Txt.slice x none (some 1)) = (C x).take 1 := by
  by_cases h : 1 ≤ x.length
  · exact C_to x 1 h
  · have h0 : x.length = 0 := by omega
    have e0 : C x = [] := List.eq_nil_of_length_eq_zero (by rw [C_len, h0])
    have hl := Txt.slice_le x none (some 1)
    have : C (Txt.slice x none (some 1)) = [] := List.eq_nil_of_length_eq_zero (by rw [C_len]; omega)
    rw [this, e0]; rfl
theorem C_slice {x y : Str} {l u : Option Int} (h : Txt.slice x l u = y) : C (Txt.slice x l u) = C y := by rw [h]
theorem root_cases {x : Str} (hx : (C x).head? = some 47) :
    (rootS x = (rootOf x, (rootS x).2)) ∧ ∃ k, C x = List.replicate k 47 ++ C (rootS x).2 := by
  obtain ⟨r, hr⟩ : ∃ r, C x = 47 :: r := by
    cases e : C x with
    | nil => rw [e] at hx; cases hx
    | cons a r => rw [e] at hx; exact ⟨r, by simp at hx; rw [hx]⟩
  have hl : x.length = r.length + 1 := by rw [← C_len, hr]; rfl
  have h1 : Txt.slice x none (some 1) = sl := C_inj (by rw [slice1, hr, C_sl]; rfl)
  have hd : C (Txt.slice x (some 1) none) = r := by
    have := C_from x 1 (by omega)
    rw [hr] at this; exact this
  have h12 : C (Txt.slice x (some 1) (some 2)) = r.take 1 := by
    by_cases h : 2 ≤ x.length
    · have := C_mid x 1 2 (by omega) h
      rw [hr] at this; exact this
    · have hr0 : r = [] := List.eq_nil_of_length_eq_zero (by omega)
      have hx1 : x = sl := C_inj (by rw [hr, hr0, C_sl])
      rw [hx1, hr0]; decide +kernel
  by_cases ha : (Txt.slice x (some 1) (some 2) != sl) = true
  · have hr1 : ∀ r', r ≠ 47 :: r' := fun r' e => by
      rw [bne_iff, ne_eq, str_eq_iff, h12, C_sl, e] at ha
      exact ha rfl
    have e : rootS x = (sl, Txt.slice x (some 1) none) := by
      unfold rootS
      rw [show Str.ofString "/" = sl from rfl, if_neg (by rw [h1]; simp), if_pos (.inl ha)]
    rw [e]
    refine ⟨?_, 1, by dsimp only; rw [hd, hr]; rfl⟩
    unfold rootOf
    rw [if_neg]
    rintro ⟨q, hq, _⟩
    rw [hr] at hq
    exact hr1 q (List.cons.inj hq).2
  · have ha' : Txt.slice x (some 1) (some 2) = sl := by rw [bne_iff] at ha; simpa using ha
    obtain ⟨q, hq⟩ : ∃ q, r = 47 :: q := by
      rw [str_eq_iff, h12, C_sl] at ha'
      cases r with
      | nil => cases ha'
      | cons a q => simp at ha'; exact ⟨q, by rw [ha']⟩
    have hl2 : x.length = q.length + 2 := by rw [hl, hq]; rfl
    have h23 : C (Txt.slice x (some 2) (some 3)) = q.take 1 := by
      by_cases h : 3 ≤ x.length
      · have := C_mid x 2 3 (by omega) h
        rw [hr, hq] at this; exact this
      · have hq0 : q = [] := List.eq_nil_of_length_eq_zero (by omega)
        have hx1 : x = Str.ofString "//" := C_inj (by rw [hr, hq, hq0, C_dsl])
        rw [hx1, hq0]; decide +kernel
    by_cases hb : (Txt.slice x (some 2) (some 3) == sl) = true
    · have hq1 : q.head? = some 47 := by
        rw [beq_iff_eq, str_eq_iff, h23, C_sl] at hb
        cases q with
        | nil => cases hb
        | cons a q => simp at hb; rw [hb]; rfl
      have e : rootS x = (sl, Txt.slice x (some 1) none) := by
        unfold rootS
        rw [show Str.ofString "/" = sl from rfl, if_neg (by rw [h1]; simp), if_pos (.inr hb)]
      rw [e]
      refine ⟨?_, 1, by dsimp only; rw [hd, hr]; rfl⟩
      unfold rootOf
      rw [if_neg]
      rintro ⟨q', hq', hn⟩
      rw [hr, hq] at hq'
      rw [← (List.cons.inj (List.cons.inj hq').2).2] at hn
      exact hn hq1
    · have hq1 : q.head? ≠ some 47 := fun h => hb (by
        rw [beq_iff_eq, str_eq_iff, h23, C_sl]
        cases q with
        | nil => cases h
        | cons a q => simp at h; rw [h]; rfl)
      have e : rootS x = (Txt.slice x none (some 2), Txt.slice x (some 2) none) := by
        unfold rootS
        rw [show Str.ofString "/" = sl from rfl, if_neg (by rw [h1]; simp), if_neg (by intro h; exact h.elim ha hb)]
      have e1 : Txt.slice x none (some 2) = Str.ofString "//" := C_inj (by
        have := C_to x 2 (by omega)
        rw [hr, hq] at this
        rw [C_dsl]; exact this)
      have e2 : C (Txt.slice x (some 2) none) = q := by
        have := C_from x 2 (by omega)
        rw [hr, hq] at this; exact this
      rw [e]
      refine ⟨?_, 2, by dsimp only; rw [e2, hr, hq]; rfl⟩
      dsimp only
      rw [e1]
      unfold rootOf
      rw [if_pos ⟨q, by rw [hr, hq], hq1⟩]
theorem normS_path {x : Str} (hx : (C x).head? = some 47) : normS x = pathR (rootOf x) (comps x) := by
  obtain ⟨h1, k, h2⟩ := root_cases hx
  have hc : comps x = (Txt.split (rootS x).2 sl).foldl normStep [] := by
    unfold comps
    rw [split_eq x, split_eq (rootS x).2, h2, sp_rep, List.map_append, List.foldl_append, foldNorm_skip _ _ (fun p hp => (List.mem_replicate.mp hp).2)]
  rw [hc]
  unfold normS pathR
  rw [h1]
end
section
set_option maxHeartbeats 400000
/-- one word of a step, as the law's own lines reckon it -/
noncomputable def wordStep (cs : List Str) (w : Str) : List Str := if (w == dd) = true then cs.dropLast else if (w == Str.ofString "" || w == dot) = true then cs else cs ++ [w]
theorem e_str : (Str.ofString "") = mkS [] := by decide +kernel
theorem wordStep_norm {cs : List Str} (h : NamesOk cs) (w : Str) : normStep cs w = wordStep cs w := by
  unfold wordStep
  by_cases h1 : (w == dd) = true
  · rw [if_pos h1]
    have e : w = dd := by simpa using h1
    have n1 : (w.length : Int) ≠ 0 := by rw [e]; decide +kernel
    have n2 : (w == dot) = false := by rw [e]; decide +kernel
    have n3 : (w != dd) = false := by rw [e]; decide +kernel
    rcases lsnoc cs with rfl | ⟨a, b, rfl⟩
    · exact normStep_nil n1 n2 n3
    · rw [normStep_up n1 n2 n3 (by have := (h b (by simp)).ndd; simpa using this)]; simp
  · rw [if_neg h1]
    by_cases h2 : (w == Str.ofString "" || w == dot) = true
    · rw [if_pos h2]
      refine normStep_skip ?_
      rw [Bool.or_eq_true] at h2
      rcases h2 with h2 | h2
      · left
        have e : w = Str.ofString "" := by simpa using h2
        rw [e]; decide +kernel
      · exact .inr h2
    · rw [if_neg h2]
      rw [Bool.or_eq_true, not_or] at h2
      refine normStep_in ?_ (by simpa using h2.2) (by simpa using h1)
      intro e
      apply h2.1
      have : C w = [] := List.eq_nil_of_length_eq_zero (by rw [C_len]; omega)
      have e2 : w = Str.ofString "" := by rw [e_str]; exact C_inj (by rw [this, C_mk])
      simp [e2]
theorem wordStep_ok {cs : List Str} (h : NamesOk cs) {w : Str} (hw : 47 ∉ C w) : NamesOk (wordStep cs w) := by
  unfold wordStep
  split
  · exact fun n hn => h n (List.dropLast_subset _ hn)
  · rename_i h1
    split
    · exact h
    · rename_i h2
      rw [Bool.or_eq_true, not_or] at h2
      intro n hn
      rcases List.mem_append.mp hn with hn | hn
      · exact h n hn
      · rw [List.mem_singleton.mp hn]
        refine ⟨fun e => h2.1 ?_, hw, fun e => h2.2 (by rw [e]; simp), fun e => h1 (by rw [e]; simp)⟩
        have : w = Str.ofString "" := by rw [e_str]; exact C_inj (by rw [e, C_mk])
        rw [this]; simp
theorem fold_words : ∀ (ws cs : List Str), NamesOk cs → (∀ w ∈ ws, 47 ∉ C w) → ws.foldl normStep cs = ws.foldl wordStep cs ∧ NamesOk (ws.foldl wordStep cs)
  | [], cs, h, _ => ⟨rfl, h⟩
  | w :: r, cs, h, hw => by
    have := fold_words r (wordStep cs w) (wordStep_ok h (hw w (.head _))) fun x hx => hw x (.tail _ hx)
    rw [List.foldl_cons, List.foldl_cons, wordStep_norm h]
    exact this
theorem split_free' (x : Str) : ∀ w ∈ Txt.split x sl, 47 ∉ C w := by
  rw [sl_eq]; exact StrLaws.split_free x 47
/-- one step of law 2's own reckoning -/
noncomputable def lawStep (ns : List Str) (b : Str) : List Str := (Txt.split b sl).foldl wordStep (if (Txt.slice b none (some 1) == sl) = true then [] else ns)
theorem abs_iff (b : Str) : (Txt.slice b none (some 1) == sl) = true ↔ (C b).head? = some 47 := by
  rw [beq_iff_eq, str_eq_iff, slice1, C_sl]
  cases C b with
  | nil => simp
  | cons a r => simp
theorem joinStep_head {p b : Str} (hp : (C p).head? = some 47) : (C (joinStep p b)).head? = some 47 := by
  have key : ∀ q : List Nat, (C p ++ q).head? = some 47 := fun q => by
    cases e : C p with
    | nil => rw [e] at hp; cases hp
    | cons a r => rw [e] at hp; simpa using hp
  unfold joinStep
  by_cases hb : (C b).head? = some 47
  · rw [if_pos (.inl ((starts_iff b).mpr hb))]; exact hb
  · have h0 : p.length ≠ 0 := by rw [← C_len]; intro e; rw [List.eq_nil_of_length_eq_zero e] at hp; cases hp
    rw [if_neg (by rw [show Str.ofString "/" = sl from rfl, starts_iff]; intro h; exact h.elim hb h0)]
    split
    · rw [C_app]; exact key _
    · rw [C_app]; exact key _
theorem lawStep_ok {ns : List Str} (h : NamesOk ns) (b : Str) : NamesOk (lawStep ns b) := by
  unfold lawStep
  refine (fold_words _ _ ?_ (split_free' b)).2
  split
  · exact fun _ hn => absurd hn (by simp)
  · exact h
theorem comps_step {p b : Str} (hp : (C p).head? = some 47) (h : NamesOk (comps p)) : comps (joinStep p b) = lawStep (comps p) b := by
  have hne : C p ≠ [] := fun e => by rw [e] at hp; cases hp
  rw [comps_join hne]
  unfold lawStep
  by_cases hb : (C b).head? = some 47
  · rw [if_pos hb, if_pos ((abs_iff b).mpr hb)]
    exact (fold_words _ _ (fun _ hn => absurd hn (by simp)) (split_free' b)).1
  · rw [if_neg hb, if_neg (by rw [abs_iff]; exact hb)]
    exact (fold_words _ _ h (split_free' b)).1
theorem comps_steps : ∀ (bs : List Str) (p : Str), (C p).head? = some 47 → NamesOk (comps p) →
    comps (bs.foldl joinStep p) = bs.foldl lawStep (comps p) ∧ NamesOk (bs.foldl lawStep (comps p)) ∧ (C (bs.foldl joinStep p)).head? = some 47
  | [], p, hp, h => ⟨rfl, h, hp⟩
  | b :: r, p, hp, h => by
    have e := comps_step (b := b) hp h
    have := comps_steps r (joinStep p b) (joinStep_head hp) (by rw [e]; exact lawStep_ok h b)
    rw [e] at this
    exact this
theorem rootOf_pre {x y : List Nat} {p : Str} (hx : C p = x ++ y) (h3 : 3 ≤ x.length) : (∃ r, C p = 47 :: 47 :: r ∧ r.head? ≠ some 47) ↔ (∃ r, x = 47 :: 47 :: r ∧ r.head? ≠ some 47) := by
  match x, h3 with
  | [], h => exact absurd h (by simp)
  | [_], h => exact absurd h (by simp)
  | [_, _], h => exact absurd h (by simp)
  | a :: b :: c :: r, _ =>
    rw [hx]
    constructor
    · rintro ⟨q, hq, hn⟩
      refine ⟨c :: r, ?_, ?_⟩
      · simp at hq; simp [hq]
      · simp at hq; rw [← hq.2.2] at hn; simpa using hn
    · rintro ⟨q, hq, hn⟩
      refine ⟨c :: r ++ y, ?_, ?_⟩
      · simp at hq; simp [hq]
      · simp at hq; rw [← hq.2.2] at hn; simpa using hn
theorem root_join {p b : Str} (hp : (C p).head? = some 47) (hb : (C b).head? ≠ some 47) : rootOf (joinStep p b) = rootOf p := by
  have h0 : p.length ≠ 0 := by rw [← C_len]; intro e; rw [List.eq_nil_of_length_eq_zero e] at hp; cases hp
  have hj : joinStep p b = if Txt.endswith p sl = true then p ++ b else p ++ (sl ++ b) := by
    unfold joinStep
    rw [if_neg (by rw [show Str.ofString "/" = sl from rfl, starts_iff]; intro h; exact h.elim hb h0)]
  have key : (∃ r, C (joinStep p b) = 47 :: 47 :: r ∧ r.head? ≠ some 47) ↔ (∃ r, C p = 47 :: 47 :: r ∧ r.head? ≠ some 47) := by
    by_cases h3 : 3 ≤ (C p).length
    · rw [hj]
      split
      · exact rootOf_pre (C_app _ _) h3
      · exact rootOf_pre (C_app _ _) h3
    · match hc : C p with
      | [] => rw [hc] at hp; cases hp
      | [a] =>
        have ha : a = 47 := by rw [hc] at hp; simpa using hp
        subst ha
        have he : Txt.endswith p sl = true := (ends_iff p).mpr (by rw [hc]; rfl)
        rw [hj, if_pos he, C_app, hc]
        constructor
        · rintro ⟨r, hr, _⟩
          simp at hr
          rw [hr] at hb; exact absurd rfl hb
        · rintro ⟨r, hr, _⟩; cases hr
      | [a, c] =>
        have ha : a = 47 := by rw [hc] at hp; simpa using hp
        subst ha
        by_cases hc47 : c = 47
        · subst hc47
          have he : Txt.endswith p sl = true := (ends_iff p).mpr (by rw [hc]; rfl)
          rw [hj, if_pos he, C_app, hc]
          constructor
          · intro _; exact ⟨[], rfl, by simp⟩
          · intro _; exact ⟨C b, rfl, hb⟩
        · have no : ∀ q, ¬ ∃ r, (47 :: c :: q : List Nat) = 47 :: 47 :: r ∧ r.head? ≠ some 47 := by
            rintro q ⟨r, hr, _⟩
            simp at hr; exact hc47 hr.1
          rw [hj]
          constructor
          · intro h
            exfalso
            split at h
            · rw [C_app, hc] at h; exact no _ h
            · rw [C_app, hc] at h; exact no _ h
          · intro h; exact absurd h (no [])
      | a :: c :: e :: r => rw [hc] at h3; simp at h3
  unfold rootOf
  by_cases h : ∃ r, C p = 47 :: 47 :: r ∧ r.head? ≠ some 47
  · rw [if_pos h, if_pos (key.mpr h)]
  · rw [if_neg h, if_neg (fun k => h (key.mp k))]
theorem rootOf_sl : rootOf sl = sl := by
  unfold rootOf
  rw [if_neg]
  rintro ⟨r, hr, _⟩
  rw [C_sl] at hr; cases hr
end
section
set_option maxHeartbeats 400000
theorem under_keeps {g h h' : Heap} {news : List (Addr × Obj)} (U : Under g h news) (k : Keeps h h') (hz : h.objs.size ≤ h'.objs.size) : Under g h' news :=
  ⟨fun b o e => k _ _ (U.kg _ _ e), Nat.le_trans U.sz hz, fun p hp => ⟨k _ _ (U.at_ p hp).1, (U.at_ p hp).2⟩⟩
/-- a smaller ground: what stands in l is hidden -/
noncomputable abbrev hid (h : Heap) (l : List (Addr × Obj)) : Heap := hideAll h (l.map (·.1))
theorem hid_at {h : Heap} {l : List (Addr × Obj)} {b : Addr} {o : Obj} (e : h.get? b = some o) (hn : ∀ p ∈ l, p.1 ≠ b) : (hid h l).get? b = some o :=
  hideAll_get _ e fun hm => by
    obtain ⟨p, hp, e2⟩ := List.mem_map.mp hm
    exact hn p hp e2
theorem Under.hid {g h : Heap} {news l : List (Addr × Obj)} (U : Under g h news) (hl : ∀ p ∈ l, p ∈ news) : Under (hid h l) h l ∧ Keeps g (hid h l) := by
  refine ⟨⟨fun b o e => of_hideAll _ e, Nat.le_of_eq (hideAll_size _ _), fun p hp => ⟨(U.at_ p (hl p hp)).1, hideAll_none _ (List.mem_map_of_mem hp)⟩⟩, fun b o e => ?_⟩
  refine hid_at (U.kg _ _ e) fun p hp q => ?_
  have := (U.at_ p (hl p hp)).2
  rw [q, e] at this; cases this
noncomputable abbrev Path := List Str
structure Fz where
  tk0 : Tok
  lam : Addr
  c : Addr
  co : Obj
  ctv : Value
structure Loc where
  x : Addr
  dx : Addr
  n : Nat
  tk : Tok
  fz : Option Fz
structure TS where
  kept : List Path
  loc : Path → Loc
  code : Option (Addr × Obj)
noncomputable def isKid (p q : Path) : Bool := decide (q ≠ [] ∧ q.dropLast = p)
noncomputable def kidsAt (kept : List Path) (p : Path) : List Path := kept.filter (isKid p)
noncomputable def TS.kidOf (S : TS) (q : Path) : Kid := (q.getLastD Str.empty, (S.loc q).tk, .ref (S.loc q).x)
noncomputable def TS.kids (S : TS) (p : Path) : List Kid := (kidsAt S.kept p).map S.kidOf
noncomputable def TS.fold (S : TS) (w : World) (p : Path) : Obj := foldObj w 65 (S.loc p).dx 191 (S.kids p) (S.loc p).n
noncomputable def TS.cc (S : TS) : Addr := (S.code.map (·.1)).getD 0
noncomputable def bagObjs (w : World) (pm : Value) (cc : Addr) (l : Loc) : List (Addr × Obj) := match l.fz with
  | none => [(l.dx, bag0)]
  | some z => [(l.dx, bagF w z.tk0 (.ref z.lam)), (z.lam, lamObj (inClass (stAt 3) 1) lamQual z.c pm cc z.ctv), (z.c, z.co)]
noncomputable def TS.own (S : TS) (w : World) (pm : Value) (p : Path) : List (Addr × Obj) := ((S.loc p).x, S.fold w p) :: bagObjs w pm S.cc (S.loc p)
noncomputable def codeObjs : Option (Addr × Obj) → List (Addr × Obj)
  | none => [(57, tabObj #[])]
  | some (cc, oc) => [(57, tabObj #[rawInt 12, rawInt 23, .ref cc]), (cc, oc)]
noncomputable def TS.objs (S : TS) (w : World) (pm : Value) : List (Addr × Obj) := codeObjs S.code ++ ([] :: S.kept).flatMap (S.own w pm)
/-- a place that stands -/
noncomputable def TS.On (S : TS) (p : Path) : Prop := p ∈ ([] : Path) :: S.kept
noncomputable instance (S : TS) (p : Path) : Decidable (S.On p) := inferInstanceAs (Decidable (p ∈ ([] : Path) :: S.kept))
structure WF (S : TS) : Prop where
  ok : ∀ q ∈ S.kept, q ≠ [] ∧ NamesOk q ∧ q.length ≤ 60
  clo : ∀ q ∈ S.kept, S.On q.dropLast
  nd : S.kept.Nodup
  xinj : ∀ p q, S.On p → S.On q → (S.loc p).x = (S.loc q).x → p = q
  dinj : ∀ p q, S.On p → S.On q → (S.loc p).dx = (S.loc q).dx → p = q
  fzc : ∀ p z, S.On p → (S.loc p).fz = some z → z.co.data = .cell (some (.ref (S.loc p).x)) ∧ S.code.isSome = true
  cod : ∀ cc oc, S.code = some (cc, oc) → ∃ vs t, oc.data = .fields vs ∧ vs[1]? = some (.str lamQual t)
  len : S.kept.length ≤ 960
  big : ∀ p, S.On p → @LT.lt Nat _ 255 (S.loc p).x
theorem TS.On.nil {S : TS} : S.On [] := .head _
theorem TS.On.kept {S : TS} {p : Path} (h : p ∈ S.kept) : S.On p := .tail _ h
theorem TS.On.cases {S : TS} {p : Path} (h : S.On p) : p = [] ∨ p ∈ S.kept := List.mem_cons.mp h
theorem WF.names {S : TS} (W : WF S) {p : Path} (h : S.On p) : NamesOk p := by
  rcases h.cases with rfl | h
  · exact fun n hn => absurd hn (by simp)
  · exact (W.ok p h).2.1
theorem WF.short {S : TS} (W : WF S) {p : Path} (h : S.On p) : p.length ≤ 60 := by
  rcases h.cases with rfl | h
  · simp
  · exact (W.ok p h).2.2
theorem isKid_iff {p q : Path} : isKid p q = true ↔ ∃ n, q = p ++ [n] := by
  unfold isKid
  rw [decide_eq_true_eq]
  constructor
  · rintro ⟨h1, h2⟩
    rcases lsnoc q with e | ⟨a, b, e⟩
    · exact absurd e h1
    · rw [e] at h2 ⊢; simp at h2; exact ⟨b, by rw [h2]⟩
  · rintro ⟨n, rfl⟩; simp
theorem kids_find {S : TS} (p : Path) (y : Str) : kfind (S.kids p) y = if p ++ [y] ∈ S.kept then some (.ref (S.loc (p ++ [y])).x) else none := by
  unfold kfind TS.kids
  rw [List.find?_map, Option.map_map]
  have hfind : ∀ l : List Path, (∀ q ∈ l, isKid p q = true) → l.find? ((fun k : Kid => decide (k.1 = y)) ∘ S.kidOf) = if p ++ [y] ∈ l then some (p ++ [y]) else none := by
    intro l hl
    induction l with
    | nil => simp
    | cons q r ih =>
      rw [List.find?_cons]
      obtain ⟨n, hn⟩ := isKid_iff.mp (hl q (.head _))
      have e1 : ((fun k : Kid => decide (k.1 = y)) ∘ S.kidOf) q = decide (n = y) := by
        simp [TS.kidOf, hn]
      rw [e1]
      by_cases h : n = y
      · subst h
        simp [hn]
      · have h2 : ¬ p ++ [y] = q := by rw [hn]; simp; exact fun e => h e.symm
        simp only [h, decide_false]
        rw [ih fun x hx => hl x (.tail _ hx)]
        simp [h2]
  rw [hfind (kidsAt S.kept p) fun q hq => (List.mem_filter.mp hq).2]
  have hm : (p ++ [y] ∈ kidsAt S.kept p) ↔ p ++ [y] ∈ S.kept := by
    unfold kidsAt
    rw [List.mem_filter]
    exact ⟨fun h => h.1, fun h => ⟨h, isKid_iff.mpr ⟨y, rfl⟩⟩⟩
  by_cases h : p ++ [y] ∈ S.kept
  · rw [if_pos (hm.mpr h), if_pos h]; rfl
  · rw [if_neg (fun k => h (hm.mp k)), if_neg h]; rfl
theorem kids_len {S : TS} (W : WF S) (p : Path) : (S.kids p).length ≤ 960 := by
  unfold TS.kids kidsAt
  rw [List.length_map]
  exact Nat.le_trans (List.length_filter_le _ _) W.len
theorem objs_rec {S : TS} {w : World} {pm : Value} {p : Path} (h : S.On p) {e : Addr × Obj} (he : e ∈ S.own w pm p) : e ∈ S.objs w pm :=
  List.mem_append_right _ (List.mem_flatMap.mpr ⟨p, h, he⟩)
theorem objs_fold {S : TS} {w : World} {pm : Value} {p : Path} (h : S.On p) : ((S.loc p).x, S.fold w p) ∈ S.objs w pm := objs_rec h (.head _)
theorem objs_bag {S : TS} {w : World} {pm : Value} {p : Path} (h : S.On p) {e : Addr × Obj} (he : e ∈ bagObjs w pm S.cc (S.loc p)) : e ∈ S.objs w pm := objs_rec h (.tail _ he)
theorem objs_code {S : TS} {w : World} {pm : Value} {e : Addr × Obj} (he : e ∈ codeObjs S.code) : e ∈ S.objs w pm := List.mem_append_left _ he
theorem objs_cases {S : TS} {w : World} {pm : Value} {e : Addr × Obj} (he : e ∈ S.objs w pm) : e ∈ codeObjs S.code ∨ ∃ p, S.On p ∧ (e = ((S.loc p).x, S.fold w p) ∨ e ∈ bagObjs w pm S.cc (S.loc p)) := by
  rcases List.mem_append.mp he with h | h
  · exact .inl h
  · obtain ⟨p, hp, h⟩ := List.mem_flatMap.mp h
    exact .inr ⟨p, hp, List.mem_cons.mp h⟩
/-- what no other thing of the tree is: a folder -/
theorem code_cls {S : TS} (W : WF S) {e : Addr × Obj} (he : e ∈ codeObjs S.code) : ∃ vs, e.2.data = .fields vs := by
  unfold codeObjs at he
  split at he
  · rw [List.mem_singleton.mp he]; exact ⟨_, rfl⟩
  · rename_i cc oc hc
    rcases List.mem_cons.mp he with h | h
    · rw [h]; exact ⟨_, rfl⟩
    · rw [List.mem_singleton.mp h]
      obtain ⟨vs, t, h1, _⟩ := W.cod cc oc hc
      exact ⟨vs, h1⟩
theorem lamObj_data (c : Addr) (pm : Value) (cc : Addr) (ctv : Value) : ∃ fd, (lamObj (inClass (stAt 3) 1) lamQual c pm cc ctv).data = .func fd := ⟨_, rfl⟩
theorem bag_cases {S : TS} (W : WF S) {w : World} {pm : Value} {p : Path} (hp : S.On p) {e : Addr × Obj} (he : e ∈ bagObjs w pm S.cc (S.loc p)) :
    (e.1 = (S.loc p).dx ∧ e.2.cls = .type "dict") ∨ (∃ fd, e.2.data = .func fd) ∨ (∃ v, e.2.data = .cell v) := by
  unfold bagObjs at he
  split at he
  · rw [List.mem_singleton.mp he]; exact .inl ⟨rfl, rfl⟩
  · rename_i z hz
    simp only [List.mem_cons, List.not_mem_nil, or_false] at he
    rcases he with rfl | rfl | rfl
    · exact .inl ⟨rfl, rfl⟩
    · exact .inr (.inl (lamObj_data ..))
    · exact .inr (.inr ⟨_, (W.fzc p z hp hz).1⟩)
/-- the address of a folder is no other thing's -/
theorem fold_apart {g h : Heap} {S : TS} (W : WF S) {w : World} {pm : Value} (U : Under g h (S.objs w pm)) {p : Path} (hp : S.On p) {e : Addr × Obj} (he : e ∈ S.objs w pm) :
    e.1 ≠ (S.loc p).x ∨ e = ((S.loc p).x, S.fold w p) := by
  by_cases q : e.1 = (S.loc p).x
  · right
    have h1 := (U.at_ e he).1
    have h2 := (U.at_ _ (objs_fold (w := w) (pm := pm) hp)).1
    dsimp only at h2
    rw [q, h2] at h1
    exact Prod.ext q (Option.some.inj h1).symm
  · exact .inl q
theorem bag_apart {g h : Heap} {S : TS} (W : WF S) {w : World} {pm : Value} (U : Under g h (S.objs w pm)) {p : Path} (hp : S.On p) {e : Addr × Obj} (he : e ∈ S.objs w pm) :
    e.1 ≠ (S.loc p).dx ∨ e ∈ bagObjs w pm S.cc (S.loc p) := by
  by_cases q : e.1 = (S.loc p).dx
  · right
    have hb : ∃ o, ((S.loc p).dx, o) ∈ bagObjs w pm S.cc (S.loc p) := by
      unfold bagObjs
      split
      · exact ⟨_, .head _⟩
      · exact ⟨_, .head _⟩
    obtain ⟨o, hb⟩ := hb
    have h1 := (U.at_ e he).1
    have h2 := (U.at_ _ (objs_bag (w := w) (pm := pm) hp hb)).1
    dsimp only at h2
    rw [q, h2] at h1
    have : e = ((S.loc p).dx, o) := Prod.ext q (Option.some.inj h1).symm
    rw [this]; exact hb
  · exact .inl q
end
section
set_option maxHeartbeats 400000
noncomputable def TS.grow (S : TS) (p : Path) (y : Str) (x dx : Addr) (tk : Tok) : TS :=
  { kept := S.kept ++ [p ++ [y]], loc := fun q => if q = p ++ [y] then ⟨x, dx, 0, tk, none⟩ else if q = p then { S.loc p with n := (S.loc p).n + 1 } else S.loc q, code := S.code }
section
variable {S : TS} {p : Path} {y : Str} {x dx : Addr} {tk : Tok}
theorem grow_new : (S.grow p y x dx tk).loc (p ++ [y]) = ⟨x, dx, 0, tk, none⟩ := by simp [TS.grow]
theorem grow_p : (S.grow p y x dx tk).loc p = { S.loc p with n := (S.loc p).n + 1 } := by simp [TS.grow]
theorem grow_old {q : Path} (h1 : q ≠ p ++ [y]) (h2 : q ≠ p) : (S.grow p y x dx tk).loc q = S.loc q := by simp [TS.grow, h1, h2]
theorem grow_x {q : Path} (h1 : q ≠ p ++ [y]) : ((S.grow p y x dx tk).loc q).x = (S.loc q).x ∧ ((S.grow p y x dx tk).loc q).dx = (S.loc q).dx ∧ ((S.grow p y x dx tk).loc q).tk = (S.loc q).tk ∧ ((S.grow p y x dx tk).loc q).fz = (S.loc q).fz := by
  by_cases h2 : q = p
  · subst h2; rw [grow_p]; exact ⟨rfl, rfl, rfl, rfl⟩
  · rw [grow_old h1 h2]; exact ⟨rfl, rfl, rfl, rfl⟩
theorem grow_on {q : Path} : (S.grow p y x dx tk).On q ↔ S.On q ∨ q = p ++ [y] := by
  simp only [TS.On, TS.grow, List.mem_cons, List.mem_append, List.not_mem_nil, or_false]
  exact or_assoc.symm
theorem grow_kidOf {q : Path} (h1 : q ≠ p ++ [y]) : (S.grow p y x dx tk).kidOf q = S.kidOf q := by
  unfold TS.kidOf
  rw [(grow_x h1).1, (grow_x h1).2.2.1]
theorem map_congr' {α β : Type} {f g : α → β} {l : List α} (h : ∀ a ∈ l, f a = g a) : l.map f = l.map g := List.map_congr_left h
theorem grow_kids_p (hq : p ++ [y] ∉ S.kept) : (S.grow p y x dx tk).kids p = S.kids p ++ [(y, tk, .ref x)] := by
  unfold TS.kids kidsAt
  rw [show (S.grow p y x dx tk).kept = S.kept ++ [p ++ [y]] from rfl, List.filter_append, List.map_append]
  congr 1
  · exact map_congr' fun q hm => grow_kidOf fun e => hq (e ▸ (List.mem_filter.mp hm).1)
  · rw [List.filter_cons, if_pos (isKid_iff.mpr ⟨y, rfl⟩)]
    simp [TS.kidOf, grow_new]
theorem grow_kids {r : Path} (hq : p ++ [y] ∉ S.kept) (hr : r ≠ p) : (S.grow p y x dx tk).kids r = S.kids r := by
  unfold TS.kids kidsAt
  rw [show (S.grow p y x dx tk).kept = S.kept ++ [p ++ [y]] from rfl, List.filter_append, List.map_append]
  have : [p ++ [y]].filter (isKid r) = [] := by
    rw [List.filter_cons, if_neg]
    · rfl
    · rw [isKid_iff]
      rintro ⟨n, e⟩
      exact hr ((List.append_inj' e rfl).1).symm
  rw [this, List.map_nil, List.append_nil]
  exact map_congr' fun q hm => grow_kidOf fun e => hq (e ▸ (List.mem_filter.mp hm).1)
theorem kids_none (W : WF S) (hq : ¬ S.On p) : S.kids p = [] := by
  unfold TS.kids kidsAt
  rw [List.map_eq_nil_iff, List.filter_eq_nil_iff]
  intro q hm hk
  obtain ⟨n, rfl⟩ := isKid_iff.mp hk
  have := W.clo _ hm
  simp at this
  exact hq this
theorem grow_wf (W : WF S) (hp : S.On p) (hy : NameOk y) (hq : p ++ [y] ∉ S.kept) (hfr : ∀ r, S.On r → (S.loc r).x ≠ x ∧ (S.loc r).dx ≠ dx) (hl : p.length < 60) (hk : S.kept.length < 960) (hbig : @LT.lt Nat _ 255 x) : WF (S.grow p y x dx tk) := by
  have hne : ∀ r, S.On r → r ≠ p ++ [y] := fun r hr e => by
    rw [e] at hr
    rcases hr.cases with h | h
    · simp at h
    · exact hq h
  refine ⟨fun q hm => ?_, fun q hm => ?_, ?_, fun a b ha hb e => ?_, fun a b ha hb e => ?_, fun a z ha e => ?_, W.cod, ?_, fun a ha => ?_⟩
  · rcases List.mem_append.mp hm with h | h
    · exact W.ok q h
    · rw [List.mem_singleton.mp h]
      refine ⟨by simp, fun n hn => ?_, by simp; omega⟩
      rcases List.mem_append.mp hn with h | h
      · exact W.names hp n h
      · rw [List.mem_singleton.mp h]; exact hy
  · rcases List.mem_append.mp hm with h | h
    · exact grow_on.mpr (.inl (W.clo q h))
    · rw [List.mem_singleton.mp h]; simp only [List.dropLast_concat]; exact grow_on.mpr (.inl hp)
  · show (S.kept ++ [p ++ [y]]).Nodup
    rw [List.nodup_append]
    refine ⟨W.nd, by simp, fun a ha b hb e => ?_⟩
    rw [List.mem_singleton.mp hb] at e
    exact hq (e ▸ ha)
  · rcases grow_on.mp ha with ha | rfl <;> rcases grow_on.mp hb with hb | rfl
    · rw [(grow_x (hne a ha)).1, (grow_x (hne b hb)).1] at e; exact W.xinj a b ha hb e
    · rw [(grow_x (hne a ha)).1, grow_new] at e; exact absurd e (hfr a ha).1
    · rw [(grow_x (hne b hb)).1, grow_new] at e; exact absurd e.symm (hfr b hb).1
    · rfl
  · rcases grow_on.mp ha with ha | rfl <;> rcases grow_on.mp hb with hb | rfl
    · rw [(grow_x (hne a ha)).2.1, (grow_x (hne b hb)).2.1] at e; exact W.dinj a b ha hb e
    · rw [(grow_x (hne a ha)).2.1, grow_new] at e; exact absurd e (hfr a ha).2
    · rw [(grow_x (hne b hb)).2.1, grow_new] at e; exact absurd e.symm (hfr b hb).2
    · rfl
  · rcases grow_on.mp ha with ha | rfl
    · rw [(grow_x (hne a ha)).2.2.2] at e
      rw [(grow_x (hne a ha)).1]
      exact W.fzc a z ha e
    · rw [grow_new] at e; cases e
  · show (S.kept ++ [p ++ [y]]).length ≤ 960
    simp; omega
  · rcases grow_on.mp ha with ha | rfl
    · rw [(grow_x (hne a ha)).1]; exact W.big a ha
    · rw [grow_new]; exact hbig
theorem grow_under {g h h' : Heap} {w : World} {pm : Value} (W : WF S) (U : Under g h (S.objs w pm)) (hp : S.On p) (hq : p ++ [y] ∉ S.kept)
    (hk : ∀ b o, @Ne Nat b (S.loc p).x → h.get? b = some o → h'.get? b = some o) (hz : g.objs.size ≤ h'.objs.size)
    (h1 : h'.get? (S.loc p).x = some (foldObj w 65 (S.loc p).dx 191 (S.kids p ++ [(y, tk, .ref x)]) ((S.loc p).n + 1)))
    (h2 : h'.get? x = some (foldObj w 65 dx 191 [] 0)) (h3 : h'.get? dx = some bag0) (g1 : g.get? x = none) (g2 : g.get? dx = none) :
    Under g h' ((S.grow p y x dx tk).objs w pm) := by
  have gp : g.get? (S.loc p).x = none := (U.at_ _ (objs_fold (w := w) (pm := pm) hp)).2
  have hne : ∀ r, S.On r → r ≠ p ++ [y] := fun r hr e => by
    rw [e] at hr
    rcases hr.cases with h | h
    · simp at h
    · exact hq h
  have hoff : ¬ S.On (p ++ [y]) := fun h => hne _ h rfl
  have hbag : ∀ r, S.On r → bagObjs w pm (S.grow p y x dx tk).cc ((S.grow p y x dx tk).loc r) = bagObjs w pm S.cc (S.loc r) := fun r hr => by
    unfold bagObjs
    rw [(grow_x (hne r hr)).2.2.2, (grow_x (hne r hr)).2.1]
    rfl
  have keep : ∀ e ∈ S.objs w pm, e ≠ ((S.loc p).x, S.fold w p) → h'.get? e.1 = some e.2 ∧ g.get? e.1 = none := fun e he hn => by
    rcases fold_apart W U hp he with q | q
    · exact ⟨hk _ _ q (U.at_ e he).1, (U.at_ e he).2⟩
    · exact absurd q hn
  refine ⟨fun b o e => hk b o (fun q => by rw [q, gp] at e; cases e) (U.kg _ _ e), hz, fun e he => ?_⟩
  rcases objs_cases he with he | ⟨r, hr, he⟩
  · refine keep e (objs_code he) fun q => ?_
    obtain ⟨vs, hv⟩ := code_cls W he
    rw [q] at hv; cases hv
  · rcases grow_on.mp hr with hr' | rfl
    · rcases he with rfl | he
      · by_cases hrp : r = p
        · subst hrp
          have e1 : ((S.grow r y x dx tk).loc r).x = (S.loc r).x := by rw [grow_p]
          have e2 : (S.grow r y x dx tk).fold w r = foldObj w 65 (S.loc r).dx 191 (S.kids r ++ [(y, tk, .ref x)]) ((S.loc r).n + 1) := by
            unfold TS.fold; rw [grow_kids_p hq, grow_p]
          rw [e1, e2]
          exact ⟨h1, gp⟩
        · have e2 : (S.grow p y x dx tk).fold w r = S.fold w r := by
            unfold TS.fold; rw [grow_kids hq hrp, grow_old (hne r hr') hrp]
          rw [e2, (grow_x (hne r hr')).1]
          refine keep _ (objs_fold hr') fun q => hrp (W.xinj _ _ hr' hp (congrArg Prod.fst q))
      · rw [hbag r hr'] at he
        refine keep e (objs_bag hr' he) fun q => ?_
        rcases bag_cases W hr' he with ⟨_, h⟩ | ⟨_, h⟩ | ⟨_, h⟩ <;> rw [q] at h <;> cases h
    · have e0 : (S.grow p y x dx tk).kids (p ++ [y]) = [] := by rw [grow_kids hq (by simp), kids_none W hoff]
      rcases he with rfl | he
      · have e2 : (S.grow p y x dx tk).fold w (p ++ [y]) = foldObj w 65 dx 191 [] 0 := by
          unfold TS.fold; rw [e0, grow_new]
        rw [e2, grow_new]; exact ⟨h2, g1⟩
      · rw [grow_new] at he
        rw [List.mem_singleton.mp he]; exact ⟨h3, g2⟩
end
end
section
set_option maxHeartbeats 400000
noncomputable def TS.ice (S : TS) (p : Path) (z : Fz) (code : Option (Addr × Obj)) : TS :=
  { kept := S.kept, loc := fun q => if q = p then { S.loc p with fz := some z } else S.loc q, code := code }
noncomputable def TS.mint (S : TS) (code : Option (Addr × Obj)) : TS := { S with code := code }
noncomputable def TS.cut (S : TS) (p : Path) (y : Str) : TS :=
  { kept := S.kept.filter (fun q => !decide (p ++ [y] <+: q)), loc := fun q => if q = p then { S.loc p with n := (S.loc p).n + 1 } else S.loc q, code := S.code }
section
variable {S : TS} {p : Path} {y : Str} {z : Fz} {code : Option (Addr × Obj)}
theorem ice_on {q : Path} : (S.ice p z code).On q ↔ S.On q := Iff.rfl
theorem ice_p : (S.ice p z code).loc p = { S.loc p with fz := some z } := by simp [TS.ice]
theorem ice_old {q : Path} (h : q ≠ p) : (S.ice p z code).loc q = S.loc q := by simp [TS.ice, h]
theorem ice_x {q : Path} : ((S.ice p z code).loc q).x = (S.loc q).x ∧ ((S.ice p z code).loc q).dx = (S.loc q).dx ∧ ((S.ice p z code).loc q).tk = (S.loc q).tk ∧ ((S.ice p z code).loc q).n = (S.loc q).n := by
  by_cases h2 : q = p
  · subst h2; rw [ice_p]; exact ⟨rfl, rfl, rfl, rfl⟩
  · rw [ice_old h2]; exact ⟨rfl, rfl, rfl, rfl⟩
theorem ice_kids {q : Path} : (S.ice p z code).kids q = S.kids q := by
  unfold TS.kids
  refine map_congr' fun r hr => ?_
  unfold TS.kidOf
  rw [ice_x.1, ice_x.2.2.1]
theorem ice_fold {w : World} {q : Path} : (S.ice p z code).fold w q = S.fold w q := by
  unfold TS.fold
  rw [ice_kids, ice_x.2.1, ice_x.2.2.2]
/-- the code of a tree stays, or is new -/
noncomputable def CodeOk (S : TS) (code : Option (Addr × Obj)) : Prop :=
  code.isSome = true ∧ (S.code.isSome = true → code = S.code) ∧ ∀ cc oc, code = some (cc, oc) → ∃ vs t, oc.data = .fields vs ∧ vs[1]? = some (.str lamQual t)
theorem ice_wf (W : WF S) (hp : S.On p) (hz : z.co.data = .cell (some (.ref (S.loc p).x))) (hc : CodeOk S code) : WF (S.ice p z code) := by
  refine ⟨W.ok, W.clo, W.nd, fun a b ha hb e => ?_, fun a b ha hb e => ?_, fun a z' ha e => ?_, hc.2.2, W.len, fun a ha => by rw [ice_x.1]; exact W.big a ha⟩
  · rw [ice_x.1, ice_x.1] at e; exact W.xinj a b ha hb e
  · rw [ice_x.2.1, ice_x.2.1] at e; exact W.dinj a b ha hb e
  · refine ⟨?_, hc.1⟩
    by_cases h : a = p
    · subst h
      rw [ice_p] at e ⊢
      cases e; exact hz
    · rw [ice_old h] at e ⊢; exact (W.fzc a z' ha e).1
theorem mint_wf (W : WF S) (hc : CodeOk S code) : WF (S.mint code) :=
  ⟨W.ok, W.clo, W.nd, W.xinj, W.dinj, fun a z' ha e => ⟨(W.fzc a z' ha e).1, hc.1⟩, hc.2.2, W.len, W.big⟩
/-- where the code is not changed, nothing but the frozen part of p changes; where it is new, nothing was frozen -/
theorem bag_code {w : World} {pm : Value} (W : WF S) (hc : CodeOk S code) {q : Path} (hq : S.On q) {cc : Addr} (hcc : cc = (code.map (·.1)).getD 0) : bagObjs w pm cc (S.loc q) = bagObjs w pm S.cc (S.loc q) := by
  unfold bagObjs
  cases hz : (S.loc q).fz with
  | none => rfl
  | some z' =>
    have := (W.fzc q z' hq hz).2
    have e := hc.2.1 this
    rw [hcc, e]; rfl
theorem code_same {g h h' : Heap} {w : World} {pm : Value} (W : WF S) (U : Under g h (S.objs w pm)) (hc : CodeOk S code) (hcode : ∀ e ∈ codeObjs code, h'.get? e.1 = some e.2 ∧ g.get? e.1 = none)
    (hk : ∀ b o, @Ne Nat b 57 → h.get? b = some o → h'.get? b = some o) : ∀ e ∈ S.objs w pm, e ∉ codeObjs S.code → h'.get? e.1 = some e.2 ∧ g.get? e.1 = none := by
  intro e he hn
  refine ⟨?_, (U.at_ e he).2⟩
  by_cases q : @Eq Nat e.1 57
  · exfalso
    have h1 := (U.at_ e he).1
    have h2 : ∃ o, ((57 : Addr), o) ∈ codeObjs S.code := by
      unfold codeObjs
      split
      · exact ⟨_, .head _⟩
      · exact ⟨_, .head _⟩
    obtain ⟨o, h2⟩ := h2
    have h3 := (U.at_ _ (objs_code (w := w) (pm := pm) h2)).1
    dsimp only at h3
    rw [show e.1 = (57 : Addr) from q, h3] at h1
    exact hn (by rw [show e = (57, o) from Prod.ext q (Option.some.inj h1).symm]; exact h2)
  · exact hk _ _ q (U.at_ e he).1
theorem mint_under {g h h' : Heap} {w : World} {pm : Value} (W : WF S) (U : Under g h (S.objs w pm)) (hc : CodeOk S code) (hcode : ∀ e ∈ codeObjs code, h'.get? e.1 = some e.2 ∧ g.get? e.1 = none)
    (hk : ∀ b o, @Ne Nat b 57 → h.get? b = some o → h'.get? b = some o) (hz : g.objs.size ≤ h'.objs.size) : Under g h' ((S.mint code).objs w pm) := by
  have keep := code_same W U hc hcode hk
  have g57 : g.get? 57 = none := by
    have h2 : ∃ o, ((57 : Addr), o) ∈ codeObjs S.code := by
      unfold codeObjs
      split
      · exact ⟨_, .head _⟩
      · exact ⟨_, .head _⟩
    obtain ⟨o, h2⟩ := h2
    exact (U.at_ _ (objs_code (w := w) (pm := pm) h2)).2
  have nf : ∀ r, S.On r → ∀ e, (e = ((S.loc r).x, S.fold w r) ∨ e ∈ bagObjs w pm S.cc (S.loc r)) → e ∉ codeObjs S.code := fun r hr e he hm => by
    obtain ⟨vs, hv⟩ := code_cls W hm
    rcases he with rfl | he
    · cases hv
    · unfold bagObjs at he
      split at he
      · rw [List.mem_singleton.mp he] at hv; cases hv
      · rename_i z' hz
        simp only [List.mem_cons, List.not_mem_nil, or_false] at he
        rcases he with rfl | rfl | rfl
        · cases hv
        · cases hv
        · rw [show (z'.c, z'.co).2.data = _ from (W.fzc r z' hr hz).1] at hv; cases hv
  refine ⟨fun b o e => hk b o (fun q => by rw [show b = (57 : Addr) from q, g57] at e; cases e) (U.kg _ _ e), hz, fun e he => ?_⟩
  rcases objs_cases he with he | ⟨r, hr, he⟩
  · exact hcode e he
  · have hb : bagObjs w pm (S.mint code).cc ((S.mint code).loc r) = bagObjs w pm S.cc (S.loc r) := bag_code W hc hr rfl
    rw [hb] at he
    have he' : e = ((S.loc r).x, S.fold w r) ∨ e ∈ bagObjs w pm S.cc (S.loc r) := he
    refine keep e ?_ (nf r hr e he')
    rcases he' with rfl | he'
    · exact objs_fold (S := S) hr
    · exact objs_bag (S := S) hr he'
theorem bag_at (w : World) (pm : Value) (cc : Addr) (l : Loc) : ∃ o, (l.dx, o) ∈ bagObjs w pm cc l ∧ ∃ es n, o.data = .dict es n := by
  unfold bagObjs
  split
  · exact ⟨_, .head _, _, _, rfl⟩
  · exact ⟨_, .head _, _, _, rfl⟩
theorem ice_under {g h h' : Heap} {w : World} {pm : Value} (W : WF S) (U : Under g h (S.objs w pm)) (hp : S.On p) (hc : CodeOk S code) (hcode : ∀ e ∈ codeObjs code, h'.get? e.1 = some e.2 ∧ g.get? e.1 = none)
    (hk : ∀ b o, @Ne Nat b 57 → @Ne Nat b (S.loc p).dx → h.get? b = some o → h'.get? b = some o) (hz : g.objs.size ≤ h'.objs.size)
    (hb1 : h'.get? (S.loc p).dx = some (bagF w z.tk0 (.ref z.lam))) (hb2 : h'.get? z.lam = some (lamObj (inClass (stAt 3) 1) lamQual z.c pm ((code.map (·.1)).getD 0) z.ctv)) (hb3 : h'.get? z.c = some z.co)
    (g2 : g.get? z.lam = none) (g3 : g.get? z.c = none) : Under g h' ((S.ice p z code).objs w pm) := by
  obtain ⟨o57, m57⟩ : ∃ o, ((57 : Addr), o) ∈ codeObjs S.code := by
    unfold codeObjs
    split
    · exact ⟨_, .head _⟩
    · exact ⟨_, .head _⟩
  have g57 : g.get? 57 = none := (U.at_ _ (objs_code (w := w) (pm := pm) m57)).2
  obtain ⟨ob, mb, es0, n0, hob⟩ := bag_at w pm S.cc (S.loc p)
  have gb : g.get? (S.loc p).dx = none := (U.at_ _ (objs_bag (w := w) (pm := pm) hp mb)).2
  have n57 : ∀ e ∈ S.objs w pm, (∀ vs, e.2.data ≠ .fields vs) → @Ne Nat e.1 57 := fun e he hn q => by
    have h1 := (U.at_ e he).1
    have h3 := (U.at_ _ (objs_code (w := w) (pm := pm) m57)).1
    dsimp only at h3
    rw [show e.1 = (57 : Addr) from q, h3] at h1
    obtain ⟨vs, hv⟩ := code_cls W m57
    exact hn vs (by rw [← Option.some.inj h1]; exact hv)
  refine ⟨fun b o e => hk b o (fun q => by rw [show b = (57 : Addr) from q, g57] at e; cases e) (fun q => by rw [show b = (S.loc p).dx from q, gb] at e; cases e) (U.kg _ _ e), hz, fun e he => ?_⟩
  rcases objs_cases he with he | ⟨r, hr, he⟩
  · exact hcode e he
  · have hr' : S.On r := hr
    rcases he with rfl | he
    · rw [ice_fold, ice_x.1]
      have hm := objs_fold (w := w) (pm := pm) hr'
      refine ⟨hk _ _ (n57 _ hm fun vs h => by cases h) ?_ (U.at_ _ hm).1, (U.at_ _ hm).2⟩
      rcases bag_apart W U hp hm with q | q
      · exact q
      · exfalso
        rcases bag_cases W hp q with ⟨_, h⟩ | ⟨_, h⟩ | ⟨_, h⟩ <;> cases h
    · by_cases hrp : r = p
      · subst hrp
        rw [ice_p] at he
        simp only [bagObjs, List.mem_cons, List.not_mem_nil, or_false] at he
        rcases he with rfl | rfl | rfl
        · exact ⟨hb1, gb⟩
        · exact ⟨hb2, g2⟩
        · exact ⟨hb3, g3⟩
      · rw [ice_old hrp] at he
        rw [show bagObjs w pm (S.ice p z code).cc (S.loc r) = bagObjs w pm S.cc (S.loc r) from bag_code W hc hr' rfl] at he
        have hm := objs_bag (w := w) (pm := pm) hr' he
        refine ⟨hk _ _ (n57 _ hm fun vs h => ?_) ?_ (U.at_ _ hm).1, (U.at_ _ hm).2⟩
        · rcases bag_cases W hr' he with ⟨_, h'⟩ | ⟨_, h'⟩ | ⟨_, h'⟩
          · unfold bagObjs at he
            split at he
            · rw [List.mem_singleton.mp he] at h; cases h
            · rename_i z' hz'
              simp only [List.mem_cons, List.not_mem_nil, or_false] at he
              rcases he with rfl | rfl | rfl
              · cases h
              · cases h
              · rw [show (z'.c, z'.co).2.data = _ from (W.fzc r z' hr' hz').1] at h; cases h
          · rw [h] at h'; cases h'
          · rw [h] at h'; cases h'
        · rcases bag_apart W U hp hm with q | q
          · exact q
          · -- e is in both frozen parts
            intro e2
            have a1 := (U.at_ e hm).1
            have a2 := (U.at_ _ (objs_bag (w := w) (pm := pm) hp mb)).1
            dsimp only at a2
            rw [e2, a2] at a1
            have e3 : ob = e.2 := Option.some.inj a1
            rw [e3] at hob
            rcases bag_cases W hr' he with ⟨h1, h2⟩ | ⟨fd, h2⟩ | ⟨v, h2⟩
            · exact hrp (W.dinj _ _ hr' hp (h1.symm.trans e2))
            · rw [hob] at h2; cases h2
            · rw [hob] at h2; cases h2
theorem cut_x {q : Path} : ((S.cut p y).loc q).x = (S.loc q).x ∧ ((S.cut p y).loc q).dx = (S.loc q).dx ∧ ((S.cut p y).loc q).tk = (S.loc q).tk ∧ ((S.cut p y).loc q).fz = (S.loc q).fz := by
  by_cases h2 : q = p
  · subst h2; simp [TS.cut]
  · simp [TS.cut, h2]
theorem cut_kept {q : Path} : q ∈ (S.cut p y).kept ↔ q ∈ S.kept ∧ ¬ p ++ [y] <+: q := by
  unfold TS.cut
  simp [List.mem_filter]
theorem cut_on {q : Path} : (S.cut p y).On q ↔ S.On q ∧ ¬ p ++ [y] <+: q := by
  unfold TS.On
  rw [List.mem_cons, List.mem_cons, cut_kept]
  constructor
  · rintro (rfl | ⟨h1, h2⟩)
    · exact ⟨.inl rfl, fun h => by exact absurd h.length_le (by simp)⟩
    · exact ⟨.inr h1, h2⟩
  · rintro ⟨rfl | h1, h2⟩
    · exact .inl rfl
    · exact .inr ⟨h1, h2⟩
theorem pre_snoc {a b : Path} {n : Str} : a <+: b ++ [n] ↔ a <+: b ∨ a = b ++ [n] := by
  rw [List.prefix_concat_iff]; exact or_comm
theorem cut_wf (W : WF S) : WF (S.cut p y) := by
  have on : ∀ {q}, (S.cut p y).On q → S.On q := fun h => (cut_on.mp h).1
  refine ⟨fun q hm => W.ok q (cut_kept.mp hm).1, fun q hm => ?_, W.nd.filter _, fun a b ha hb e => ?_, fun a b ha hb e => ?_, fun a z' ha e => ?_, W.cod, Nat.le_trans (List.length_filter_le _ _) W.len, fun a ha => by rw [cut_x.1]; exact W.big a (on ha)⟩
  · obtain ⟨h1, h2⟩ := cut_kept.mp hm
    refine cut_on.mpr ⟨W.clo q h1, fun h => h2 ?_⟩
    exact h.trans (List.dropLast_prefix q)
  · rw [cut_x.1, cut_x.1] at e; exact W.xinj a b (on ha) (on hb) e
  · rw [cut_x.2.1, cut_x.2.1] at e; exact W.dinj a b (on ha) (on hb) e
  · rw [cut_x.2.2.2] at e; rw [cut_x.1]; exact W.fzc a z' (on ha) e
theorem cut_kids {r : Path} (hr : (S.cut p y).On r) (hrp : r ≠ p) : (S.cut p y).kids r = S.kids r := by
  obtain ⟨h1, h2⟩ := cut_on.mp hr
  unfold TS.kids kidsAt TS.cut
  rw [List.filter_filter]
  have : ∀ q ∈ S.kept, (isKid r q && !decide (p ++ [y] <+: q)) = isKid r q := fun q hq => by
    cases hk : isKid r q with
    | false => rfl
    | true =>
      obtain ⟨n, rfl⟩ := isKid_iff.mp hk
      rw [Bool.true_and, Bool.not_eq_true', decide_eq_false_iff_not]
      intro h
      rcases pre_snoc.mp h with h | h
      · exact h2 h
      · exact hrp ((List.append_inj' h rfl).1).symm
  rw [List.filter_congr this]
  refine map_congr' fun q hq => ?_
  unfold TS.kidOf
  have := cut_x (S := S) (p := p) (y := y) (q := q)
  unfold TS.cut at this
  rw [this.1, this.2.2.1]
theorem erase_kid : ∀ (l : List Path), l.Nodup → (∀ q ∈ l, isKid p q = true) → (l.filter (fun q => !decide (p ++ [y] <+: q))).map S.kidOf = kerase (l.map S.kidOf) y
  | [], _, _ => rfl
  | q :: r, hn, hl => by
    obtain ⟨n, rfl⟩ := isKid_iff.mp (hl q (.head _))
    have ih := erase_kid r (List.nodup_cons.mp hn).2 fun x hx => hl x (.tail _ hx)
    have e1 : (S.kidOf (p ++ [n])).1 = n := by simp [TS.kidOf]
    by_cases h : n = y
    · subst h
      have hall : r.filter (fun q => !decide (p ++ [n] <+: q)) = r := by
        rw [List.filter_eq_self]
        intro a ha
        rw [Bool.not_eq_true', decide_eq_false_iff_not]
        obtain ⟨m, rfl⟩ := isKid_iff.mp (hl a (.tail _ ha))
        intro hpre
        rcases pre_snoc.mp hpre with h | h
        · exact absurd h.length_le (by simp)
        · exact (List.nodup_cons.mp hn).1 (by rw [h]; exact ha)
      rw [List.filter_cons, if_neg (by simp), hall]
      unfold kerase
      rw [List.map_cons, List.eraseP_cons, e1]
      simp
    · have hnp : ¬ p ++ [y] <+: p ++ [n] := fun hpre => by
        rcases pre_snoc.mp hpre with h' | h'
        · exact absurd h'.length_le (by simp)
        · simp at h'; exact h h'.symm
      rw [List.filter_cons, if_pos (by simp [hnp]), List.map_cons, ih]
      unfold kerase
      rw [List.map_cons, List.eraseP_cons, e1]
      simp [h]
theorem cut_kids_p (W : WF S) : (S.cut p y).kids p = kerase (S.kids p) y := by
  have : (S.cut p y).kids p = ((kidsAt S.kept p).filter (fun q => !decide (p ++ [y] <+: q))).map S.kidOf := by
    unfold TS.kids kidsAt TS.cut
    rw [List.filter_filter, List.filter_filter]
    rw [show (fun a => isKid p a && !decide (p ++ [y] <+: a)) = (fun a => !decide (p ++ [y] <+: a) && isKid p a) from funext fun a => Bool.and_comm _ _]
    refine map_congr' fun q hq => ?_
    unfold TS.kidOf
    have := cut_x (S := S) (p := p) (y := y) (q := q)
    unfold TS.cut at this
    rw [this.1, this.2.2.1]
  rw [this]
  exact erase_kid _ (W.nd.filter _) fun q hq => (List.mem_filter.mp hq).2
theorem cut_under {g h h' : Heap} {w : World} {pm : Value} (W : WF S) (U : Under g h (S.objs w pm)) (hp : S.On p)
    (hk : ∀ b o, @Ne Nat b (S.loc p).x → h.get? b = some o → h'.get? b = some o) (hz : g.objs.size ≤ h'.objs.size)
    (h1 : h'.get? (S.loc p).x = some (foldObj w 65 (S.loc p).dx 191 (kerase (S.kids p) y) ((S.loc p).n + 1))) :
    Under g h' ((S.cut p y).objs w pm) := by
  have gp : g.get? (S.loc p).x = none := (U.at_ _ (objs_fold (w := w) (pm := pm) hp)).2
  have keep : ∀ e ∈ S.objs w pm, e ≠ ((S.loc p).x, S.fold w p) → h'.get? e.1 = some e.2 ∧ g.get? e.1 = none := fun e he hn => by
    rcases fold_apart W U hp he with q | q
    · exact ⟨hk _ _ q (U.at_ e he).1, (U.at_ e he).2⟩
    · exact absurd q hn
  refine ⟨fun b o e => hk b o (fun q => by rw [q, gp] at e; cases e) (U.kg _ _ e), hz, fun e he => ?_⟩
  rcases objs_cases he with he | ⟨r, hr, he⟩
  · refine keep e (objs_code (S := S) he) fun q => ?_
    obtain ⟨vs, hv⟩ := code_cls W (show e ∈ codeObjs S.code from he)
    rw [q] at hv; cases hv
  · have hr' := (cut_on.mp hr).1
    rcases he with rfl | he
    · by_cases hrp : r = p
      · subst hrp
        have e2 : (S.cut r y).fold w r = foldObj w 65 (S.loc r).dx 191 (kerase (S.kids r) y) ((S.loc r).n + 1) := by
          unfold TS.fold; rw [cut_kids_p W]; simp [TS.cut]
        rw [e2, cut_x.1]
        exact ⟨h1, gp⟩
      · have e2 : (S.cut p y).fold w r = S.fold w r := by
          unfold TS.fold; rw [cut_kids hr hrp]; simp [TS.cut, hrp]
        rw [e2, cut_x.1]
        exact keep _ (objs_fold hr') fun q => hrp (W.xinj _ _ hr' hp (congrArg Prod.fst q))
    · have hb : bagObjs w pm (S.cut p y).cc ((S.cut p y).loc r) = bagObjs w pm S.cc (S.loc r) := by
        unfold bagObjs
        rw [cut_x.2.2.2, cut_x.2.1]; rfl
      rw [hb] at he
      refine keep e (objs_bag (S := S) hr' he) fun q => ?_
      rcases bag_cases W hr' he with ⟨_, h⟩ | ⟨_, h⟩ | ⟨_, h⟩ <;> rw [q] at h <;> cases h
end
end
section
set_option maxHeartbeats 400000
theorem upd_of_split {D : Addr} {o o' : Obj} : ∀ (pre post : List (Addr × Obj)), (∀ p ∈ pre, p.1 ≠ D) → (∀ p ∈ post, p.1 ≠ D) → Upd D o o' (pre ++ (D, o) :: post) (pre ++ (D, o') :: post)
  | [], _, _, h => .head h
  | p :: r, post, h1, h2 => .tail (h1 p (.head _)) (upd_of_split r post (fun q hq => h1 q (.tail _ hq)) h2)
theorem updF_to {D : Addr} {o : Obj} {news : List (Addr × Obj)} {u : Obj → List (Addr × Obj)} (U : UpdF D o news u) (o' : Obj) : Upd D o o' news (u o') := by
  obtain ⟨pre, post, rfl, hu, a, b⟩ := U.split
  rw [hu]; exact upd_of_split pre post a b
section
variable {prog : Program} {w : World} {A : Around} {E : Value → Shared → Prop} {s : Shared} {g : Heap} {L D b : Addr} {m : Str → Option Value} {news : List (Addr × Obj)} {u : Obj → List (Addr × Obj)}
theorem lextend {vs ws : List Value} {n n2 : Nat} {Q : Value → Shared → Prop} (F : Fr g L s.heap m) (N : News g L s.heap news) (hb : (b, listOf ws.toArray n2) ∈ news) (U : UpdF D (listOf vs.toArray n) news u) (hz : vs.length + ws.length ≤ 1000000)
    (h : ∀ h' n', Fr g L h' m → News g L h' (u (listOf (vs ++ ws).toArray n')) → Q .none { s with heap := h' }) : wpAny (model prog w) A (call (.builtin "list.extend") [.ref D, .ref b]) Q E s := by
  have hd : ¬(!vs.toArray.isEmpty && Builtin.List.listTooLong (vs.toArray.size + ws.toArray.size)) = true := by
    unfold Builtin.List.listTooLong
    rw [List.size_toArray, List.size_toArray, sizeLine_eq]
    simp only [Bool.and_eq_true, not_and]
    intro _; simp; omega
  by_cases hw : ws = []
  · subst hw
    refine kxn_extend F N hb rfl (updF_to U _) hd (by simp [sizeLine_eq]; simp at hz; omega) (by simp [sizeLine_eq]; simp at hz; omega) fun h' F' N' => ?_
    refine h h' n F' ?_
    rw [List.append_nil]; exact N'
  · refine kl_extend (l := vs ++ ws) F N hb (by simp) (by simpa using hw) (updF_to U _) hd (by simp [sizeLine_eq]; omega) (by simp [sizeLine_eq]; omega) fun h' F' N' => h h' (n + 1) F' N'
end
/-- everything below a place, by the rows of places -/
noncomputable def belowS : Nat → List Path → Path → List Path
  | 0, _, _ => []
  | d + 1, kept, p => (kidsAt kept p).flatMap fun q => q :: belowS d kept q
theorem kids_mem {kept : List Path} {p q : Path} : q ∈ kidsAt kept p ↔ q ∈ kept ∧ ∃ n, q = p ++ [n] := by
  unfold kidsAt
  rw [List.mem_filter, isKid_iff]
theorem below_mem : ∀ (d : Nat) (kept : List Path) (p q : Path), q ∈ belowS d kept p → q ∈ kept ∧ p <+: q ∧ p.length < q.length
  | 0, _, _, _, h => by simp [belowS] at h
  | d + 1, kept, p, q, h => by
    simp only [belowS, List.mem_flatMap, List.mem_cons] at h
    obtain ⟨r, hr, h⟩ := h
    obtain ⟨h1, n, rfl⟩ := kids_mem.mp hr
    rcases h with rfl | h
    · exact ⟨h1, List.prefix_append _ _, by simp⟩
    · obtain ⟨a, b, c⟩ := below_mem d kept _ q h
      exact ⟨a, (List.prefix_append p [n]).trans b, by simp at c; omega⟩
theorem below_all : ∀ (d : Nat) (kept : List Path) (p q : Path), (∀ r ∈ kept, ∀ k, 0 < k → k ≤ r.length → r.take k ∈ kept) → q ∈ kept → p <+: q → p.length < q.length → q.length ≤ p.length + d → q ∈ belowS d kept p
  | 0, _, _, _, _, _, _, h1, h2 => absurd h1 (by omega)
  | d + 1, kept, p, q, hc, hq, hp, h1, h2 => by
    obtain ⟨r, rfl⟩ := hp
    cases r with
    | nil => simp at h1
    | cons n r =>
      have hk : p ++ [n] ∈ kept := by
        have := hc _ hq (p.length + 1) (by omega) (by simp)
        rw [List.take_append, List.take_of_length_le (by omega)] at this
        simpa using this
      simp only [belowS, List.mem_flatMap, List.mem_cons]
      refine ⟨p ++ [n], kids_mem.mpr ⟨hk, n, rfl⟩, ?_⟩
      by_cases hr : r = []
      · left; rw [hr]
      · right
        exact below_all d kept (p ++ [n]) _ hc hq ⟨r, by simp⟩ (by simp; exact List.length_pos_iff.mpr hr) (by simp at h2 ⊢; omega)
theorem below_nodup : ∀ (d : Nat) (kept : List Path) (p : Path), kept.Nodup → (belowS d kept p).Nodup
  | 0, _, _, _ => List.nodup_nil
  | d + 1, kept, p, hn => by
    have key : ∀ l : List Path, l.Nodup → (∀ q ∈ l, ∃ n, q = p ++ [n]) → (l.flatMap fun q => q :: belowS d kept q).Nodup := by
      intro l
      induction l with
      | nil => intro _ _; exact List.nodup_nil
      | cons q r ih =>
        intro h1 h2
        have ⟨h3, h4⟩ := List.nodup_cons.mp h1
        rw [List.flatMap_cons, List.nodup_append]
        obtain ⟨n, hqn⟩ := h2 q (.head _)
        refine ⟨List.nodup_cons.mpr ⟨fun h => ?_, below_nodup d kept q hn⟩, ih h4 fun x hx => h2 x (.tail _ hx), fun a ha b hb e => ?_⟩
        · have := (below_mem d kept q q h).2.2; omega
        · subst e
          have pa : q <+: a := by
            rcases List.mem_cons.mp ha with h | h
            · rw [h]
              exact List.prefix_refl _
            · exact (below_mem d kept q a h).2.1
          obtain ⟨q', hq', hb⟩ := List.mem_flatMap.mp hb
          obtain ⟨n', hqn'⟩ := h2 q' (.tail _ hq')
          have pb : q' <+: a := by
            rcases List.mem_cons.mp hb with h | h
            · rw [h]
              exact List.prefix_refl _
            · exact (below_mem d kept q' a h).2.1
          have hlen : q.length = q'.length := by rw [hqn, hqn']; simp
          have : q = q' := by
            rw [List.prefix_iff_eq_take.mp pa, List.prefix_iff_eq_take.mp pb, hlen]
          exact h3 (this ▸ hq')
    exact key _ (hn.filter _) fun q hq => (kids_mem.mp hq).2
theorem nodup_len {α : Type} [DecidableEq α] : ∀ (l k : List α), l.Nodup → (∀ a ∈ l, a ∈ k) → l.length ≤ k.length
  | [], _, _, _ => Nat.zero_le _
  | a :: r, k, hn, h => by
    have ⟨h1, h2⟩ := List.nodup_cons.mp hn
    have ha := h a (.head _)
    have := nodup_len r (k.erase a) h2 fun b hb => (List.mem_erase_of_ne (fun e => h1 (by rw [← e]; exact hb))).mpr (h b (.tail _ hb))
    rw [List.length_erase_of_mem ha] at this
    have := List.length_pos_of_mem ha
    simp only [List.length_cons]; omega
theorem below_len (d : Nat) {kept : List Path} (p : Path) (hn : kept.Nodup) : (belowS d kept p).length ≤ kept.length :=
  nodup_len _ _ (below_nodup d kept p hn) fun q hq => (below_mem d kept p q hq).1
end
section

local macro_rules | `(tactic| walk_at "call ref") => `(tactic| (
  (with_reducible show wpAny _ _ (PySem.call (Value.ref 65) [Value.ref 191]) _ _ _); refine stop ?_))
theorem fd_full {P : Params} : ∃ nm bs sn sub col dd k0 k1 k2 k3 k5, (K2 P).lookup 65 = some (excClassObj nm nm 65 64 bs bmD true sn sub false col dd k0 k1 k2 k3 k5 "dict.__new__") := ⟨_, _, _, _, _, _, _, _, _, _, _, rfl⟩
theorem fd_fn {P : Params} : ∃ of, (K2 P).lookup 191 = some of ∧ of.cls = .type "function" := ⟨_, rfl, rfl⟩
theorem fd_last {P : Params} : ∃ of, (K2 P).lookup 255 = some of := ⟨_, rfl⟩
theorem fd_ns {P : Params} : ∃ o es ep, (K2 P).lookup 64 = some o ∧ o.data = .dict es ep ∧ StrKeys es ∧ nsFind es "__init__" = none := by
  refine ⟨_, _, _, rfl, rfl, ?_, by rfl⟩
  intro e he
  simp only [List.mem_toArray, List.mem_cons, List.not_mem_nil, or_false] at he
  rcases he with rfl | rfl | rfl | rfl | rfl | rfl | rfl | rfl <;> exact ⟨_, _, rfl⟩
theorem folder_ct : ∀ {w : World} {dp un : Nat} {fr : Option (List Env)} {gd : Option (List Code)} {s : Shared} {Q E : Value → Shared → Prop} 
   {p loose mg mb} 
   (X : (K2 w.params).In s.heap) (T : TopRead p loose mg mb s.heap) (hdp : dp + 5 < 1000) (hu : un + 40 < 9900)
   (hQ : ∀ x dx h' tk, Keeps s.heap h' → s.heap.get? x = none → s.heap.get? dx = none → @Ne Nat x dx → h'.get? x = some (foldObj w 65 dx 191 [] 0) → h'.get? dx = some bag0 → @LT.lt Nat _ 255 x → s.heap.objs.size ≤ h'.objs.size → Q (.ref x) { s with heap := h', toks := tk })
   , wpAny (model PySem.Challenge.rw_il0142_02.row.prog w) (Ar dp un fr gd) (call (.ref 191) []) Q E s := by
  k_fill
  intro w dp un fr gd s Q E p loose mg mb X T hdp hu hQ
  refine' enter [] ?X ?T ?ho ?hcd ?hroom ?hbind ?hloc ?_ ?hco ?hgen ?hk ?hcell
  walk_at "my enter"
  k_steps
  unfold Stop
  rename_i h1 F _
  have hk : ∀ b o, s.heap.get? b = some o → _ := F.keep
  have hC := fd_full (P := w.params)
  obtain ⟨nm, bs, sn, sub, col, dd, k0, k1, k2, k3, k5, hC⟩ := hC
  obtain ⟨of, hf1, hf2⟩ := fd_fn (P := w.params)
  obtain ⟨ol, hl1⟩ := fd_last (P := w.params)
  obtain ⟨on, es, ep, hn1, hn2, hn3, hn4⟩ := fd_ns (P := w.params)
  refine call_D (hk _ _ (X _ _ hC)) (mN := nsFind es) ⟨on, es, ep, hk _ _ (X _ _ hn1), hn2, hn3, fun _ => rfl⟩ hn4 (hk _ _ (X _ _ hf1)) hf2 (fun h2 M => ?_)
  have hs := M.size
  have none1 : ∀ a, h1.objs.size ≤ a → s.heap.get? a = none := fun a ha => by
    cases q : s.heap.get? a with
    | none => rfl
    | some o => exact absurd (Heap.lt_size (hk _ _ q)) (Nat.not_lt.mpr ha)
  exact hQ _ h1.objs.size h2 _ (fun b o e => M.keeps _ _ (hk _ _ e)) (none1 _ (Nat.le_succ _)) (none1 _ (Nat.le_refl _)) (Nat.succ_ne_self _) M.fold M.bag (Nat.lt_succ_of_lt (Heap.lt_size (hk _ _ (X _ _ hl1)))) (by have := Nat.lt_of_le_of_lt F.above F.ns.lt; rw [hs]; omega)
end
section
set_option maxHeartbeats 800000
section
variable {prog : Program} {w : World} {A : Around} {E : Value → Shared → Prop} {K : Frag} {x C : Addr} {ox : Obj} {od : Option Obj} {h : Heap} {g : Array GenState} {d : Drawn} {t : Nat} {os : OsState}
theorem tail_fold {nm : Str} {np : Pos} {slice : Expr} {key : Value} {Q : Value → Shared → Prop} (X : K.In h) (I : InstAt h x ox C od) (hgi : findIn K (.ref C) "__getitem__" = some (some (.builtin "dict.__getitem__")))
    (hg : wpAny (model prog w) A (getItem (.ref x) key) Q E ⟨h, g, d, t, os⟩)
    (hs : subscripted slice false (.ref x) key = operate [.ref x, key] (getItem (.ref x) key) := by with_unfolding_all rfl) :
    wpAny (model prog w) A (subscriptTail (.Name nm np) slice (.ref x) key) Q E ⟨h, g, d, t, os⟩ := by
  unfold subscriptTail
  refine wpAny_bind ?_
  unfold getitemInPython
  refine wpAny_bind (special_inst X I hgi (wpAny_pure ?_))
  rw [hs]
  exact wpAny_bind (wpAny_operating (wpAny_mono hg (fun r s₃ h₃ => wpAny_bind (wpAny_pure (wpAny_pure h₃))) fun _ _ x => x))
end
theorem seq_none {P : Params} {M : Model} {h : Heap} (X : (K2 P).In h) : Looks M h (seqItemTypes.anyM fun n => isSubtype (.ref 65) (.type n)) false := by
  have e : ∀ n ∈ seqItemTypes, mroIn (K2 P) 65 (.type n) = some false := by
    have : mroIn (K2 P) 65 = fun b => some ((.ref 65 :: bmD).contains b) := by funext b; rfl
    rw [this]
    decide
  have key : ∀ l : List String, (∀ n ∈ l, mroIn (K2 P) 65 (.type n) = some false) → Looks M h (l.anyM fun n => isSubtype (.ref 65) (.type n)) false := by
    intro l
    induction l with
    | nil => intro _; exact .now
    | cons a r ih =>
      intro hl
      intro A Q E s k q
      rw [List.anyM]
      refine wpAny_bind (looks_mroIn X (hl a (.head _)) A _ E s k ?_)
      exact ih (fun n hn => hl n (.tail _ hn)) A Q E s k q
  exact key _ e
theorem inst_bag {g h : Heap} {S : TS} {w : World} {pm : Value} (U : Under g h (S.objs w pm)) {p : Path} (hp : S.On p) :
    ∃ bag, ((S.loc p).dx, bag) ∈ bagObjs w pm S.cc (S.loc p) ∧ InstAt h (S.loc p).x (S.fold w p) 65 (some bag) ∧ (bag = bag0 ∨ ∃ tk v, bag = bagF w tk v) := by
  have hf := (U.at_ _ (objs_fold (w := w) (pm := pm) hp)).1
  have key : ∀ bag, ((S.loc p).dx, bag) ∈ bagObjs w pm S.cc (S.loc p) → InstAt h (S.loc p).x (S.fold w p) 65 (some bag) := fun bag hb =>
    ⟨hf, rfl, rfl, (U.at_ _ (objs_bag (w := w) (pm := pm) hp hb)).1⟩
  cases hz : (S.loc p).fz with
  | none =>
    have hb : ((S.loc p).dx, bag0) ∈ bagObjs w pm S.cc (S.loc p) := by unfold bagObjs; rw [hz]; exact .head _
    exact ⟨_, hb, key _ hb, .inl rfl⟩
  | some z =>
    have hb : ((S.loc p).dx, bagF w z.tk0 (.ref z.lam)) ∈ bagObjs w pm S.cc (S.loc p) := by unfold bagObjs; rw [hz]; exact .head _
    exact ⟨_, hb, key _ hb, .inr ⟨_, _, rfl⟩⟩
theorem xs_not {P : Params} {g : Heap} (X : (K2 P).In g) {x : Addr} (h : g.get? x = none) (T : ∃ o, g.get? sysModules = some o) : (x == sysModules) = false := by
  obtain ⟨o, e⟩ := T
  rw [beq_eq_false_iff_ne]
  intro q
  rw [q, e] at h; cases h
end
section
theorem mem2 {α : Type _} {e a b : α} (h : e ∈ [a, b]) : e = a ∨ e = b := (List.mem_cons.mp h).imp id List.mem_singleton.mp
theorem mem3 {α : Type _} {e a b c : α} (h : e ∈ [a, b, c]) : e = a ∨ e = b ∨ e = c := (List.mem_cons.mp h).imp id mem2
theorem mem4 {α : Type _} {e a b c d : α} (h : e ∈ [a, b, c, d]) : e = a ∨ e = b ∨ e = c ∨ e = d := (List.mem_cons.mp h).imp id mem3
theorem mem5 {α : Type _} {e a b c d f : α} (h : e ∈ [a, b, c, d, f]) : e = a ∨ e = b ∨ e = c ∨ e = d ∨ e = f := (List.mem_cons.mp h).imp id mem4
theorem xs_big {x : Addr} (h : @LT.lt Nat _ 255 x) : (x == sysModules) = false := by
  rw [beq_eq_false_iff_ne]
  intro e
  rw [e] at h
  exact absurd h (by decide)
/-- what a lookup of a folder does to the tree -/
theorem tree_get : ∀ {w : World} {dp un : Nat} {fr : Option (List Env)} {gd : Option (List Code)} {s : Shared} {Q E : Value → Shared → Prop} {S : TS} {pth : Path} {y : Str} {t : Tok} {pm : Value}
   {p loose mg mb} {g : Heap}
   (X : (K2 w.params).In g) (T : TopRead p loose mg mb g) (U : Under g s.heap (S.objs w pm)) (W : WF S) (hdp : dp + 25 < 1000) (hu : un + 120 < 9900) (hp : S.On pth)
   (hit : pth ++ [y] ∈ S.kept → ∀ tk, Q (.ref (S.loc (pth ++ [y])).x) { s with toks := tk })
   (made : pth ++ [y] ∉ S.kept → (S.loc pth).fz = none → ∀ x dx h' tk, Under g h' ((S.grow pth y x dx t).objs w pm) → (∀ r, S.On r → (S.loc r).x ≠ x ∧ (S.loc r).dx ≠ dx) → @LT.lt Nat _ 255 x → Q (.ref x) { s with heap := h', toks := tk })
   (lost : pth ++ [y] ∉ S.kept → (S.loc pth).fz.isSome = true → ∀ x dx h' tk, Keeps s.heap h' → Under g h' (S.objs w pm) → s.heap.get? x = none → s.heap.get? dx = none → @Ne Nat x dx → h'.get? x = some (foldObj w 65 dx 191 [] 0) → h'.get? dx = some bag0 → @LT.lt Nat _ 255 x → Q (.ref x) { s with heap := h', toks := tk })
   , wpAny (model PySem.Challenge.rw_il0142_02.row.prog w) (Ar dp un fr gd) (getItem (.ref (S.loc pth).x) (.str y t)) Q E s := by
  k_fill
  intro w dp un fr gd s Q E S pth y t pm p loose mg mb g X T U W hdp hu hp hit made lost
  obtain ⟨bag, hb, I, hbag⟩ := inst_bag (w := w) (pm := pm) U hp
  have Xh : (K2 w.params).In s.heap := X.keeps U.kg
  have hxs := xs_big (W.big pth hp)
  obtain ⟨h, gg, d, tk, os⟩ := s
  by_cases hin : pth ++ [y] ∈ S.kept
  · refine item_hit (v := .ref (S.loc (pth ++ [y])).x) Xh I (seq_none Xh) (by k_is) (by k_is) (by rw [kids_find, if_pos hin]) (hit hin _)
  have hn : kfind (S.kids pth) y = none := by rw [kids_find, if_neg hin]
  have hm : ∃ om, (K2 w.params).lookup 55 = some om ∧ om.cls = .type "function" := ⟨_, by k_is, rfl⟩
  obtain ⟨om, hm1, hm2⟩ := hm
  refine item_miss (fm := 55) (om := om) Xh I (seq_none Xh) (by k_is) (by k_is) hxs (by k_is) (Xh _ _ hm1) hm2 hn ?_
  obtain ⟨of, hf1, hf2⟩ := fd_fn (P := w.params)
  obtain ⟨fd, hfd⟩ : ∃ fd, of.data = .func fd := by
    have : ∃ of' fd, (K2 w.params).lookup 191 = some of' ∧ of'.data = .func fd := ⟨_, _, by k_is, rfl⟩
    obtain ⟨of', fd, e1, e2⟩ := this
    rw [hf1] at e1; cases e1
    exact ⟨fd, e2⟩
  cases hz : (S.loc pth).fz with
  | none =>
    have hb0 : bagObjs w pm S.cc (S.loc pth) = [((S.loc pth).dx, bag0)] := by unfold bagObjs; rw [hz]
    have hdx : ((S.loc pth).dx, bag0) ∈ S.objs w pm := objs_bag hp (by rw [hb0]; exact .head _)
    have H := Under.hid (l := [((S.loc pth).x, S.fold w pth), ((S.loc pth).dx, bag0)]) U (fun e he => by
      rcases mem2 he with rfl | rfl
      · exact objs_fold hp
      · exact hdx)
    refine missing_ct (s := ⟨h, gg, d, tk + 1, os⟩) (R := fun v h₀ h₁ => ∃ x dx, v = .ref x ∧ h₀.get? x = none ∧ h₀.get? dx = none ∧ @Ne Nat x dx ∧ h₁.get? x = some (foldObj w 65 dx 191 [] 0) ∧ h₁.get? dx = some bag0 ∧ @LT.lt Nat _ 255 x ∧ h₀.objs.size ≤ h₁.objs.size)
      (X.keeps H.2) (T.keeps H.2) H.1 (by (try dsimp only [Ar, Around.in1, Around.deeper]); first | with_reducible exact room1 (by assumption) (by decide) | with_reducible exact room0 (by assumption) (by decide) | omega) (by (try dsimp only [Ar, Around.in1, Around.deeper]); first | with_reducible exact room1 (by assumption) (by decide) | with_reducible exact room0 (by assumption) (by decide) | omega) (H.2 _ _ (X _ _ hf1)) hfd hxs hn (by have := kids_len W pth; omega) ?_ ?_
    · intro fr' h₀ tk₀ kk hz0
      refine folder_ct (X.keeps (fun b o e => kk _ _ (U.kg _ _ e))) (T.keeps (fun b o e => kk _ _ (U.kg _ _ e))) (by (try dsimp only [Ar, Around.in1, Around.deeper]); first | with_reducible exact room1 (by assumption) (by decide) | with_reducible exact room0 (by assumption) (by decide) | omega) (by (try dsimp only [Ar, Around.in1, Around.deeper]); first | with_reducible exact room1 (by assumption) (by decide) | with_reducible exact room0 (by assumption) (by decide) | omega) (fun x dx h' tk' k1 n1 n2 ne o1 o2 big hz1 => ?_)
      exact ⟨h', tk', rfl, k1, x, dx, rfl, n1, n2, ne, o1, o2, big, hz1⟩
    · rintro v h₀ h₁ h' tk' kk k1 hz0 ⟨x, dx, rfl, n1, n2, ne, o1, o2, big, hsz⟩ hs hx'
      have nx : ∀ {b : Addr} {o : Obj}, h.get? b = some o → b ≠ x ∧ b ≠ dx := fun e => ⟨fun q => (by rw [← q, kk _ _ e] at n1; cases n1), fun q => (by rw [← q, kk _ _ e] at n2; cases n2)⟩
      have hfr : ∀ r, S.On r → (S.loc r).x ≠ x ∧ (S.loc r).dx ≠ dx := fun r hr => by
        obtain ⟨bag', _, I', _⟩ := inst_bag (w := w) (pm := pm) U hr
        exact ⟨(nx I'.at_).1, (nx I'.dict).2⟩
      have hne1 : @Ne Nat x (S.loc pth).x := fun e => (hfr pth hp).1 e.symm
      have hne2 : @Ne Nat dx (S.loc pth).x := fun e => (nx I.at_).2 e.symm
      have hszz : g.objs.size ≤ h'.objs.size := by
        have e1 : (hid h [((S.loc pth).x, S.fold w pth), ((S.loc pth).dx, bag0)]).objs.size = h.objs.size := hideAll_size _ _
        rw [e1] at hz0
        have e2 : h'.objs.size = h₁.objs.size := hs.1
        have e3 := U.sz
        exact Nat.le_trans e3 (by rw [e2]; exact Nat.le_trans hz0 hsz)
      refine made hin hz x dx h' tk' (grow_under W U hp hin (fun b o hb e => ?_) hszz hx' ?_ ?_ ?_ ?_) hfr big
      · rw [hs.2 b hb]; exact k1 _ _ (kk _ _ e)
      · rw [hs.2 _ hne1]; exact o1
      · rw [hs.2 _ hne2]; exact o2
      · cases q : g.get? x with
        | none => rfl
        | some o => rw [kk _ _ (U.kg _ _ q)] at n1; cases n1
      · cases q : g.get? dx with
        | none => rfl
        | some o => rw [kk _ _ (U.kg _ _ q)] at n2; cases n2
  | some z =>
    have hb0 : bagObjs w pm S.cc (S.loc pth) = [((S.loc pth).dx, bagF w z.tk0 (.ref z.lam)), (z.lam, lamObj (inClass (stAt 3) 1) lamQual z.c pm S.cc z.ctv), (z.c, z.co)] := by unfold bagObjs; rw [hz]
    obtain ⟨hco, hcode⟩ := W.fzc pth z hp hz
    obtain ⟨⟨cc, oc⟩, hcd⟩ : ∃ c, S.code = some c := Option.isSome_iff_exists.mp hcode
    have hcc : S.cc = cc := by unfold TS.cc; rw [hcd]; rfl
    have H := Under.hid (l := [((S.loc pth).x, S.fold w pth), ((S.loc pth).dx, bagF w z.tk0 (.ref z.lam)), (z.lam, lamObj (inClass (stAt 3) 1) lamQual z.c pm cc z.ctv), (z.c, z.co), (cc, oc)]) U (fun e he => by
      rw [hcc] at hb0
      rcases mem5 he with rfl | rfl | rfl | rfl | rfl
      · exact objs_fold hp
      · exact objs_bag hp (by rw [hcc, hb0]; exact .head _)
      · exact objs_bag hp (by rw [hcc, hb0]; exact .tail _ (.head _))
      · exact objs_bag hp (by rw [hcc, hb0]; exact .tail _ (.tail _ (.head _)))
      · exact objs_code (by rw [hcd]; exact .tail _ (.head _)))
    refine fmissing_ct (s := ⟨h, gg, d, tk + 1, os⟩) (R := fun v h₀ h₁ => ∃ x dx, v = .ref x ∧ h₀.get? x = none ∧ h₀.get? dx = none ∧ @Ne Nat x dx ∧ h₁.get? x = some (foldObj w 65 dx 191 [] 0) ∧ h₁.get? dx = some bag0 ∧ @LT.lt Nat _ 255 x ∧ h₀.objs.size ≤ h₁.objs.size)
      (X.keeps H.2) (T.keeps H.2) H.1 (by (try dsimp only [Ar, Around.in1, Around.deeper]); first | with_reducible exact room1 (by assumption) (by decide) | with_reducible exact room0 (by assumption) (by decide) | omega) (by (try dsimp only [Ar, Around.in1, Around.deeper]); first | with_reducible exact room1 (by assumption) (by decide) | with_reducible exact room0 (by assumption) (by decide) | omega) hco (W.cod cc oc hcd) (H.2 _ _ (X _ _ hf1)) hfd ?_ ?_
    · intro fr' h₀ tk₀ kk hz0
      refine folder_ct (X.keeps (fun b o e => kk _ _ (U.kg _ _ e))) (T.keeps (fun b o e => kk _ _ (U.kg _ _ e))) (by (try dsimp only [Ar, Around.in1, Around.deeper]); first | with_reducible exact room1 (by assumption) (by decide) | with_reducible exact room0 (by assumption) (by decide) | omega) (by (try dsimp only [Ar, Around.in1, Around.deeper]); first | with_reducible exact room1 (by assumption) (by decide) | with_reducible exact room0 (by assumption) (by decide) | omega) (fun x dx h' tk' k1 n1 n2 ne o1 o2 big hz1 => ?_)
      exact ⟨h', tk', rfl, k1, x, dx, rfl, n1, n2, ne, o1, o2, big, hz1⟩
    · rintro v h₀ h₁ tk' kk k1 hz0 ⟨x, dx, rfl, n1, n2, ne, o1, o2, big, hsz⟩
      have fre : ∀ a, h₀.get? a = none → h.get? a = none := fun a n => by
        cases q : h.get? a with
        | none => rfl
        | some o => rw [kk _ _ q] at n; cases n
      have e1 : (hid h [((S.loc pth).x, S.fold w pth), ((S.loc pth).dx, bagF w z.tk0 (.ref z.lam)), (z.lam, lamObj (inClass (stAt 3) 1) lamQual z.c pm cc z.ctv), (z.c, z.co), (cc, oc)]).objs.size = h.objs.size := hideAll_size _ _
      rw [e1] at hz0
      exact lost hin (by rw [hz]; rfl) x dx h₁ tk' (fun b o e => k1 _ _ (kk _ _ e)) (under_keeps U (fun b o e => k1 _ _ (kk _ _ e)) (Nat.le_trans hz0 hsz)) (fre _ n1) (fre _ n2) ne o1 o2 big
end
section
theorem hid_keep {h h₂ : Heap} {l news : List (Addr × Obj)} (U : Under (hid h l) h₂ news) {b : Addr} {o : Obj} (e : h.get? b = some o) (hl : ∀ p ∈ l, p.1 = b → h₂.get? b = some o) : h₂.get? b = some o := by
  by_cases hm : ∃ p ∈ l, p.1 = b
  · obtain ⟨p, hp, q⟩ := hm
    exact hl p hp q
  · exact U.kg _ _ (hid_at e fun p hp q => hm ⟨p, hp, q⟩)
theorem hid_fresh {g h : Heap} {l : List (Addr × Obj)} {a : Addr} (k : Keeps g (hid h l)) (n : (hid h l).get? a = none) : g.get? a = none := by
  cases q : g.get? a with
  | none => rfl
  | some o => rw [k _ _ q] at n; cases n
theorem code_none {S : TS} (W : WF S) (h : S.code = none) {p : Path} (hp : S.On p) : (S.loc p).fz = none := by
  cases hz : (S.loc p).fz with
  | none => rfl
  | some z => have := (W.fzc p z hp hz).2; rw [h] at this; cases this
theorem tree_freeze : ∀ {w : World} {dp un : Nat} {fr : Option (List Env)} {gd : Option (List Code)} {s : Shared} {Q E : Value → Shared → Prop} {S : TS} {pth : Path}
   {p loose mean mg mb} {g : Heap}
   (X : (K2 w.params).In g) (TT : Top p loose mean mg mb g) (CH : CodeHd g 61 57) (U : Under g s.heap (S.objs w ((mg "__name__").getD .none))) (W : WF S) (hdp : dp + 15 < 1000) (hu : un + 60 < 9900) (hp : S.On pth)
   (hQ : ∀ z code h' tk, CodeOk S code → z.co.data = .cell (some (.ref (S.loc pth).x)) → Under g h' ((S.ice pth z code).objs w ((mg "__name__").getD .none)) → Q .none { s with heap := h', toks := tk })
   , wpAny (model PySem.Challenge.rw_il0142_02.row.prog w) (Ar dp un fr gd) (call (.ref 62) [.ref (S.loc pth).x]) Q E s := by
  k_fill
  intro w dp un fr gd s Q E S pth p loose mean mg mb g X TT CH U W hdp hu hp hQ
  have hfm := objs_fold (w := w) (pm := (mg "__name__").getD .none) hp
  have hf := (U.at_ _ hfm).1
  dsimp only at hf
  obtain ⟨ob, mb', es0, n0, hob⟩ := bag_at w ((mg "__name__").getD .none) S.cc (S.loc pth)
  have hbm := objs_bag (w := w) (pm := (mg "__name__").getD .none) hp mb'
  have hb := (U.at_ _ hbm).1
  dsimp only at hb
  obtain ⟨o57, m57, vs57, d57⟩ : ∃ o, ((57 : Addr), o) ∈ codeObjs S.code ∧ ∃ vs, o.data = .fields vs := by
    unfold codeObjs
    split
    · exact ⟨_, .head _, _, rfl⟩
    · exact ⟨_, .head _, _, rfl⟩
  have h57m := objs_code (w := w) (pm := (mg "__name__").getD .none) m57
  have h57 := (U.at_ _ h57m).1
  dsimp only at h57
  have hxd : @Ne Nat (S.loc pth).x (S.loc pth).dx := fun e => by
    rw [show (S.loc pth).x = (S.loc pth).dx from e, hb] at hf
    have := Option.some.inj hf
    rcases bag_cases W hp mb' with ⟨_, h⟩ | ⟨_, h⟩ | ⟨_, h⟩
    · rw [this] at h; cases h
    · rw [hob] at h; cases h
    · rw [hob] at h; cases h
  have hx57 : @Ne Nat (S.loc pth).x 57 := fun e => by
    rw [show (S.loc pth).x = 57 from e, h57] at hf
    rw [Option.some.inj hf] at d57; cases d57
  have hd57 : @Ne Nat (S.loc pth).dx 57 := fun e => by
    rw [show (S.loc pth).dx = 57 from e, h57] at hb
    rw [Option.some.inj hb, hob] at d57; cases d57
  cases hcode : S.code with
  | none =>
    have hz := code_none W hcode hp
    have hb0 : bagObjs w ((mg "__name__").getD .none) S.cc (S.loc pth) = [((S.loc pth).dx, bag0)] := by unfold bagObjs; rw [hz]
    have H := Under.hid (l := [((S.loc pth).x, S.fold w pth), ((S.loc pth).dx, bag0), (57, tabObj #[])]) U (fun e he => by
      rcases mem3 he with rfl | rfl | rfl
      · exact hfm
      · exact objs_bag hp (by rw [hb0]; exact .head _)
      · exact objs_code (by rw [hcode]; exact .head _))
    refine freeze_ct (X.keeps H.2) (TT.keeps H.2) (CH.keeps H.2) H.1 (room0 hdp (by decide)) (room0 hu (by decide)) hxd hx57 hd57 (fun lam cc c oc' co ctv tk0 h₂ tk₂ U₂ hco hoc l1 l2 l3 l4 l5 n1 n2 n3 nc => ?_)
    have hck : CodeOk S (some (cc, oc')) := ⟨rfl, fun e => (by rw [hcode] at e; cases e), fun a b e => (by cases e; exact hoc)⟩
    refine hQ ⟨tk0, lam, c, co, ctv⟩ (some (cc, oc')) h₂ tk₂ hck hco ?_
    refine ice_under W U hp hck ?_ ?_ ?_ ?_ ?_ ?_ ?_ ?_
    · intro e he
      rcases mem2 he with rfl | rfl
      · have := U₂.at_ (57, tabObj #[rawInt 12, rawInt 23, .ref cc]) (by k_mem)
        exact ⟨this.1, hid_fresh H.2 this.2⟩
      · have := U₂.at_ (cc, oc') (by k_mem)
        exact ⟨this.1, hid_fresh H.2 this.2⟩
    · intro b o nb1 nb2 e
      refine hid_keep U₂ e fun q hq eq => ?_
      rcases mem3 hq with rfl | rfl | rfl
      · dsimp only at eq
        rw [← eq] at e ⊢
        rw [hf] at e; cases e
        exact (U₂.at_ ((S.loc pth).x, foldObj w 65 (S.loc pth).dx 191 (S.kids pth) (S.loc pth).n) (by k_mem)).1
      · exact absurd eq.symm nb2
      · exact absurd eq.symm nb1
    · have e1 : (hid s.heap [((S.loc pth).x, S.fold w pth), ((S.loc pth).dx, bag0), (57, tabObj #[])]).objs.size = s.heap.objs.size := hideAll_size _ _
      have e2 := U₂.sz
      rw [e1] at e2
      exact Nat.le_trans U.sz e2
    · exact (U₂.at_ ((S.loc pth).dx, bagF w tk0 (.ref lam)) (by k_mem)).1
    · exact (U₂.at_ (lam, lamObj (inClass (stAt 3) 1) lamQual c ((mg "__name__").getD .none) cc ctv) (by k_mem)).1
    · exact (U₂.at_ (c, co) (by k_mem)).1
    · exact hid_fresh H.2 (U₂.at_ (lam, lamObj (inClass (stAt 3) 1) lamQual c ((mg "__name__").getD .none) cc ctv) (by k_mem)).2
    · exact hid_fresh H.2 (U₂.at_ (c, co) (by k_mem)).2
  | some cd =>
    obtain ⟨cc, oc⟩ := cd
    have hck : CodeOk S (some (cc, oc)) := ⟨rfl, fun _ => hcode.symm, fun a b e => W.cod a b (by rw [hcode]; exact e)⟩
    have hccd : @Ne Nat cc (S.loc pth).dx := fun e => by
      have hc1 := (U.at_ (cc, oc) (objs_code (by rw [hcode]; exact .tail _ (.head _)))).1
      dsimp only at hc1
      rw [show cc = (S.loc pth).dx from e, hb] at hc1
      obtain ⟨vs, t, h1, _⟩ := W.cod cc oc hcode
      rw [← Option.some.inj hc1, hob] at h1; cases h1
    cases hz : (S.loc pth).fz with
    | none =>
      have H := Under.hid (l := [((S.loc pth).x, S.fold w pth), ((S.loc pth).dx, bag0), (57, tabObj #[rawInt 12, rawInt 23, .ref cc]), (cc, oc)]) U (fun e he => by
        rcases mem4 he with rfl | rfl | rfl | rfl
        · exact hfm
        · exact objs_bag hp (by unfold bagObjs; rw [hz]; exact .head _)
        · exact objs_code (by rw [hcode]; exact .head _)
        · exact objs_code (by rw [hcode]; exact .tail _ (.head _)))
      refine freeze2_ct (X.keeps H.2) (TT.keeps H.2) (CH.keeps H.2) H.1 (room0 hdp (by decide)) (room0 hu (by decide)) hxd hx57 hd57 hccd (fun lam c co ctv tk0 h₂ tk₂ U₂ hco l1 l2 l3 l4 l5 n1 n2 n3 n4 nc => ?_)
      refine hQ ⟨tk0, lam, c, co, ctv⟩ (some (cc, oc)) h₂ tk₂ hck hco ?_
      refine ice_under W U hp hck ?_ ?_ ?_ ?_ ?_ ?_ ?_ ?_
      · intro e he
        rcases mem2 he with rfl | rfl
        · have := U₂.at_ (57, tabObj #[rawInt 12, rawInt 23, .ref cc]) (by k_mem)
          exact ⟨this.1, hid_fresh H.2 this.2⟩
        · have := U₂.at_ (cc, oc) (by k_mem)
          exact ⟨this.1, hid_fresh H.2 this.2⟩
      · intro b o nb1 nb2 e
        refine hid_keep U₂ e fun q hq eq => ?_
        rcases mem4 hq with rfl | rfl | rfl | rfl
        · dsimp only at eq
          rw [← eq] at e ⊢
          rw [hf] at e; cases e
          exact (U₂.at_ ((S.loc pth).x, foldObj w 65 (S.loc pth).dx 191 (S.kids pth) (S.loc pth).n) (by k_mem)).1
        · exact absurd eq.symm nb2
        · exact absurd eq.symm nb1
        · dsimp only at eq
          rw [← eq] at e ⊢
          have hc1 := (U.at_ (cc, oc) (objs_code (by rw [hcode]; exact .tail _ (.head _)))).1
          dsimp only at hc1
          rw [hc1] at e; cases e
          exact (U₂.at_ (cc, oc) (by k_mem)).1
      · have e1 : (hid s.heap [((S.loc pth).x, S.fold w pth), ((S.loc pth).dx, bag0), (57, tabObj #[rawInt 12, rawInt 23, .ref cc]), (cc, oc)]).objs.size = s.heap.objs.size := hideAll_size _ _
        have e2 := U₂.sz
        rw [e1] at e2
        exact Nat.le_trans U.sz e2
      · exact (U₂.at_ ((S.loc pth).dx, bagF w tk0 (.ref lam)) (by k_mem)).1
      · exact (U₂.at_ (lam, lamObj (inClass (stAt 3) 1) lamQual c ((mg "__name__").getD .none) cc ctv) (by k_mem)).1
      · exact (U₂.at_ (c, co) (by k_mem)).1
      · exact hid_fresh H.2 (U₂.at_ (lam, lamObj (inClass (stAt 3) 1) lamQual c ((mg "__name__").getD .none) cc ctv) (by k_mem)).2
      · exact hid_fresh H.2 (U₂.at_ (c, co) (by k_mem)).2
    | some z =>
      have H := Under.hid (l := [((S.loc pth).x, S.fold w pth), ((S.loc pth).dx, bagF w z.tk0 (.ref z.lam)), (57, tabObj #[rawInt 12, rawInt 23, .ref cc]), (cc, oc)]) U (fun e he => by
        rcases mem4 he with rfl | rfl | rfl | rfl
        · exact hfm
        · exact objs_bag hp (by unfold bagObjs; rw [hz]; exact .head _)
        · exact objs_code (by rw [hcode]; exact .head _)
        · exact objs_code (by rw [hcode]; exact .tail _ (.head _)))
      refine freeze3_ct (X.keeps H.2) (TT.keeps H.2) (CH.keeps H.2) H.1 (room0 hdp (by decide)) (room0 hu (by decide)) hxd hx57 hd57 hccd (fun lam c co ctv tk0 h₂ tk₂ U₂ hco l1 l2 l3 l4 l5 n1 n2 n3 n4 nc => ?_)
      refine hQ ⟨tk0, lam, c, co, ctv⟩ (some (cc, oc)) h₂ tk₂ hck hco ?_
      refine ice_under W U hp hck ?_ ?_ ?_ ?_ ?_ ?_ ?_ ?_
      · intro e he
        rcases mem2 he with rfl | rfl
        · have := U₂.at_ (57, tabObj #[rawInt 12, rawInt 23, .ref cc]) (by k_mem)
          exact ⟨this.1, hid_fresh H.2 this.2⟩
        · have := U₂.at_ (cc, oc) (by k_mem)
          exact ⟨this.1, hid_fresh H.2 this.2⟩
      · intro b o nb1 nb2 e
        refine hid_keep U₂ e fun q hq eq => ?_
        rcases mem4 hq with rfl | rfl | rfl | rfl
        · dsimp only at eq
          rw [← eq] at e ⊢
          rw [hf] at e; cases e
          exact (U₂.at_ ((S.loc pth).x, foldObj w 65 (S.loc pth).dx 191 (S.kids pth) (S.loc pth).n) (by k_mem)).1
        · exact absurd eq.symm nb2
        · exact absurd eq.symm nb1
        · dsimp only at eq
          rw [← eq] at e ⊢
          have hc1 := (U.at_ (cc, oc) (objs_code (by rw [hcode]; exact .tail _ (.head _)))).1
          dsimp only at hc1
          rw [hc1] at e; cases e
          exact (U₂.at_ (cc, oc) (by k_mem)).1
      · have e1 : (hid s.heap [((S.loc pth).x, S.fold w pth), ((S.loc pth).dx, bagF w z.tk0 (.ref z.lam)), (57, tabObj #[rawInt 12, rawInt 23, .ref cc]), (cc, oc)]).objs.size = s.heap.objs.size := hideAll_size _ _
        have e2 := U₂.sz
        rw [e1] at e2
        exact Nat.le_trans U.sz e2
      · exact (U₂.at_ ((S.loc pth).dx, bagF w tk0 (.ref lam)) (by k_mem)).1
      · exact (U₂.at_ (lam, lamObj (inClass (stAt 3) 1) lamQual c ((mg "__name__").getD .none) cc ctv) (by k_mem)).1
      · exact (U₂.at_ (c, co) (by k_mem)).1
      · exact hid_fresh H.2 (U₂.at_ (lam, lamObj (inClass (stAt 3) 1) lamQual c ((mg "__name__").getD .none) cc ctv) (by k_mem)).2
      · exact hid_fresh H.2 (U₂.at_ (c, co) (by k_mem)).2
end
section
/-- a folder that no tree holds -/
noncomputable def loose (w : World) (y dy : Addr) (n : Nat) (bag : Obj) : List (Addr × Obj) := [(y, foldObj w 65 dy 191 [] n), (dy, bag)]
theorem under_left {g h : Heap} {a b : List (Addr × Obj)} (U : Under g h (a ++ b)) : Under g h a := ⟨U.kg, U.sz, fun p hp => U.at_ p (List.mem_append_left _ hp)⟩
theorem under_right {g h : Heap} {a b : List (Addr × Obj)} (U : Under g h (a ++ b)) : Under g h b := ⟨U.kg, U.sz, fun p hp => U.at_ p (List.mem_append_right _ hp)⟩
theorem under_app {g h : Heap} {a b : List (Addr × Obj)} (U : Under g h a) (V : Under g h b) : Under g h (a ++ b) := ⟨U.kg, U.sz, fun p hp => (List.mem_append.mp hp).elim (U.at_ p) (V.at_ p)⟩
theorem loose_freeze : ∀ {w : World} {dp un : Nat} {fr : Option (List Env)} {gd : Option (List Code)} {s : Shared} {Q E : Value → Shared → Prop} {S : TS} {y dy : Addr} {n : Nat}
   {p loose' mean mg mb} {g : Heap}
   (X : (K2 w.params).In g) (TT : Top p loose' mean mg mb g) (CH : CodeHd g 61 57) (U : Under g s.heap (S.objs w ((mg "__name__").getD .none) ++ loose w y dy n bag0)) (W : WF S) (hdp : dp + 15 < 1000) (hu : un + 60 < 9900)
   (hyd : @Ne Nat y dy) (hap : ∀ e ∈ S.objs w ((mg "__name__").getD .none), @Ne Nat e.1 y ∧ @Ne Nat e.1 dy)
   (hQ : ∀ code tk0 lam h' tk, CodeOk S code → Under g h' ((S.mint code).objs w ((mg "__name__").getD .none) ++ loose w y dy n (bagF w tk0 (.ref lam))) → Q .none { s with heap := h', toks := tk })
   , wpAny (model PySem.Challenge.rw_il0142_02.row.prog w) (Ar dp un fr gd) (call (.ref 62) [.ref y]) Q E s := by
  k_fill
  intro w dp un fr gd s Q E S y dy n p loose' mean mg mb g X TT CH U W hdp hu hyd hap hQ
  have U0 := under_left U
  have V0 := under_right U
  have hy : s.heap.get? y = some (foldObj w 65 dy 191 [] n) := (V0.at_ _ (.head _)).1
  have hdy : s.heap.get? dy = some bag0 := (V0.at_ (dy, bag0) (.tail _ (.head _))).1
  have gy : g.get? y = none := (V0.at_ (y, foldObj w 65 dy 191 [] n) (.head _)).2
  have gdy : g.get? dy = none := (V0.at_ (dy, bag0) (.tail _ (.head _))).2
  obtain ⟨o57, m57, vs57, d57⟩ : ∃ o, ((57 : Addr), o) ∈ codeObjs S.code ∧ ∃ vs, o.data = .fields vs := by
    unfold codeObjs
    split
    · exact ⟨_, .head _, _, rfl⟩
    · exact ⟨_, .head _, _, rfl⟩
  have h57m := objs_code (w := w) (pm := (mg "__name__").getD .none) m57
  have h57 := (U0.at_ _ h57m).1
  dsimp only at h57
  have hx57 : @Ne Nat y 57 := fun e => (hap _ h57m).1 e.symm
  have hd57 : @Ne Nat dy 57 := fun e => (hap _ h57m).2 e.symm
  -- the tree, seen where the loose bag is hidden
  have U1 : Under g (hid s.heap [(dy, bag0)]) (S.objs w ((mg "__name__").getD .none)) := by
    refine ⟨fun b o e => hid_at (U0.kg _ _ e) fun q hq eq => ?_, ?_, fun e he => ⟨hid_at (U0.at_ e he).1 fun q hq eq => ?_, (U0.at_ e he).2⟩⟩
    · rw [List.mem_singleton.mp hq] at eq
      rw [← eq, gdy] at e; cases e
    · rw [show (hid s.heap [(dy, bag0)]).objs.size = s.heap.objs.size from hideAll_size _ _]; exact U0.sz
    · rw [List.mem_singleton.mp hq] at eq
      exact (hap e he).2 eq.symm
  have un1 : ∀ {b : Addr} {o : Obj}, (hid s.heap [(dy, bag0)]).get? b = some o → s.heap.get? b = some o ∧ @Ne Nat b dy := fun {b o} e => by
    refine ⟨of_hideAll _ e, fun q => ?_⟩
    have : (hid s.heap [(dy, bag0)]).get? dy = none := hideAll_none _ (.head _)
    rw [show b = dy from q, this] at e; cases e
  cases hcode : S.code with
  | none =>
    have H := Under.hid (l := [(y, foldObj w 65 dy 191 [] n), (dy, bag0), (57, tabObj #[])]) U (fun e he => by
      rcases mem3 he with rfl | rfl | rfl
      · exact List.mem_append_right _ (.head _)
      · exact List.mem_append_right _ (.tail _ (.head _))
      · exact List.mem_append_left _ (objs_code (by rw [hcode]; exact .head _)))
    refine freeze_ct (X.keeps H.2) (TT.keeps H.2) (CH.keeps H.2) H.1 (room0 hdp (by decide)) (room0 hu (by decide)) hyd hx57 hd57 (fun lam cc c oc' co ctv tk0 h₂ tk₂ U₂ hco hoc l1 l2 l3 l4 l5 n1 n2 n3 nc => ?_)
    have hck : CodeOk S (some (cc, oc')) := ⟨rfl, fun e => (by rw [hcode] at e; cases e), fun a b e => (by cases e; exact hoc)⟩
    have hsz : g.objs.size ≤ h₂.objs.size := by
      have e1 : (hid s.heap [(y, foldObj w 65 dy 191 [] n), (dy, bag0), (57, tabObj #[])]).objs.size = s.heap.objs.size := hideAll_size _ _
      have e2 := U₂.sz
      rw [e1] at e2
      exact Nat.le_trans U.sz e2
    refine hQ (some (cc, oc')) tk0 lam h₂ tk₂ hck (under_app (mint_under W U1 hck ?_ ?_ hsz) ⟨fun b o e => ?_, hsz, fun e he => ?_⟩)
    · intro e he
      rcases mem2 he with rfl | rfl
      · have := U₂.at_ (57, tabObj #[rawInt 12, rawInt 23, .ref cc]) (by k_mem)
        exact ⟨this.1, hid_fresh H.2 this.2⟩
      · have := U₂.at_ (cc, oc') (by k_mem)
        exact ⟨this.1, hid_fresh H.2 this.2⟩
    · intro b o nb1 e
      obtain ⟨e, nb2⟩ := un1 e
      refine hid_keep U₂ e fun q hq eq => ?_
      rcases mem3 hq with rfl | rfl | rfl
      · dsimp only at eq
        rw [← eq] at e ⊢
        rw [hy] at e; cases e
        exact (U₂.at_ (y, foldObj w 65 dy 191 [] n) (by k_mem)).1
      · exact absurd eq.symm nb2
      · exact absurd eq.symm nb1
    · exact U₂.kg _ _ (H.2 _ _ e)
    · simp only [loose, List.mem_cons, List.not_mem_nil, or_false] at he
      rcases he with rfl | rfl
      · exact ⟨(U₂.at_ (y, foldObj w 65 dy 191 [] n) (by k_mem)).1, gy⟩
      · exact ⟨(U₂.at_ (dy, bagF w tk0 (.ref lam)) (by k_mem)).1, gdy⟩
  | some cd =>
    obtain ⟨cc, oc⟩ := cd
    have hck : CodeOk S (some (cc, oc)) := ⟨rfl, fun _ => hcode.symm, fun a b e => W.cod a b (by rw [hcode]; exact e)⟩
    have hccm : (cc, oc) ∈ S.objs w ((mg "__name__").getD .none) := objs_code (by rw [hcode]; exact .tail _ (.head _))
    have H := Under.hid (l := [(y, foldObj w 65 dy 191 [] n), (dy, bag0), (57, tabObj #[rawInt 12, rawInt 23, .ref cc]), (cc, oc)]) U (fun e he => by
      rcases mem4 he with rfl | rfl | rfl | rfl
      · exact List.mem_append_right _ (.head _)
      · exact List.mem_append_right _ (.tail _ (.head _))
      · exact List.mem_append_left _ (objs_code (by rw [hcode]; exact .head _))
      · exact List.mem_append_left _ hccm)
    refine freeze2_ct (X.keeps H.2) (TT.keeps H.2) (CH.keeps H.2) H.1 (room0 hdp (by decide)) (room0 hu (by decide)) hyd hx57 hd57 (hap _ hccm).2 (fun lam c co ctv tk0 h₂ tk₂ U₂ hco l1 l2 l3 l4 l5 n1 n2 n3 n4 nc => ?_)
    have hsz : g.objs.size ≤ h₂.objs.size := by
      have e1 : (hid s.heap [(y, foldObj w 65 dy 191 [] n), (dy, bag0), (57, tabObj #[rawInt 12, rawInt 23, .ref cc]), (cc, oc)]).objs.size = s.heap.objs.size := hideAll_size _ _
      have e2 := U₂.sz
      rw [e1] at e2
      exact Nat.le_trans U.sz e2
    refine hQ (some (cc, oc)) tk0 lam h₂ tk₂ hck (under_app (mint_under W U1 hck ?_ ?_ hsz) ⟨fun b o e => ?_, hsz, fun e he => ?_⟩)
    · intro e he
      rcases mem2 he with rfl | rfl
      · have := U₂.at_ (57, tabObj #[rawInt 12, rawInt 23, .ref cc]) (by k_mem)
        exact ⟨this.1, hid_fresh H.2 this.2⟩
      · have := U₂.at_ (cc, oc) (by k_mem)
        exact ⟨this.1, hid_fresh H.2 this.2⟩
    · intro b o nb1 e
      obtain ⟨e, nb2⟩ := un1 e
      refine hid_keep U₂ e fun q hq eq => ?_
      rcases mem4 hq with rfl | rfl | rfl | rfl
      · dsimp only at eq
        rw [← eq] at e ⊢
        rw [hy] at e; cases e
        exact (U₂.at_ (y, foldObj w 65 dy 191 [] n) (by k_mem)).1
      · exact absurd eq.symm nb2
      · exact absurd eq.symm nb1
      · dsimp only at eq
        rw [← eq] at e ⊢
        have hc1 := (U0.at_ (cc, oc) hccm).1
        dsimp only at hc1
        rw [hc1] at e; cases e
        exact (U₂.at_ (cc, oc) (by k_mem)).1
    · exact U₂.kg _ _ (H.2 _ _ e)
    · simp only [loose, List.mem_cons, List.not_mem_nil, or_false] at he
      rcases he with rfl | rfl
      · exact ⟨(U₂.at_ (y, foldObj w 65 dy 191 [] n) (by k_mem)).1, gy⟩
      · exact ⟨(U₂.at_ (dy, bagF w tk0 (.ref lam)) (by k_mem)).1, gdy⟩
/-- a lookup of a loose folder: it makes a new one -/
theorem loose_get : ∀ {w : World} {dp un : Nat} {fr : Option (List Env)} {gd : Option (List Code)} {s : Shared} {Q E : Value → Shared → Prop} {L : List (Addr × Obj)} {y dy : Addr} {n : Nat} {nm : Str} {t : Tok}
   {p loose' mg mb} {g : Heap}
   (X : (K2 w.params).In g) (T : TopRead p loose' mg mb g) (U : Under g s.heap (L ++ loose w y dy n bag0)) (hdp : dp + 25 < 1000) (hu : un + 120 < 9900)
   (hyd : @Ne Nat y dy) (hbig : @LT.lt Nat _ 255 y) (hap : ∀ e ∈ L, @Ne Nat e.1 y ∧ @Ne Nat e.1 dy)
   (hQ : ∀ x dx h' tk, Under g h' (L ++ loose w x dx 0 bag0) → @Ne Nat x dx → @LT.lt Nat _ 255 x → (∀ e ∈ L, @Ne Nat e.1 x ∧ @Ne Nat e.1 dx) → Q (.ref x) { s with heap := h', toks := tk })
   , wpAny (model PySem.Challenge.rw_il0142_02.row.prog w) (Ar dp un fr gd) (getItem (.ref y) (.str nm t)) Q E s := by
  k_fill
  intro w dp un fr gd s Q E L y dy n nm t p loose' mg mb g X T U hdp hu hyd hbig hap hQ
  have V0 := under_right U
  have hy : s.heap.get? y = some (foldObj w 65 dy 191 [] n) := (V0.at_ _ (.head _)).1
  have hdy : s.heap.get? dy = some bag0 := (V0.at_ (dy, bag0) (.tail _ (.head _))).1
  have gy : g.get? y = none := (V0.at_ (y, foldObj w 65 dy 191 [] n) (.head _)).2
  have Xh : (K2 w.params).In s.heap := X.keeps U.kg
  have hxs := xs_big hbig
  have I : InstAt s.heap y (foldObj w 65 dy 191 [] n) 65 (some bag0) := ⟨hy, rfl, rfl, hdy⟩
  obtain ⟨h, gg, d, tk, os⟩ := s
  dsimp only at hy hdy Xh I U V0
  have hm : ∃ om, (K2 w.params).lookup 55 = some om ∧ om.cls = .type "function" := ⟨_, by k_is, rfl⟩
  obtain ⟨om, hm1, hm2⟩ := hm
  refine item_miss (fm := 55) (om := om) Xh I (seq_none Xh) (by k_is) (by k_is) hxs (by k_is) (Xh _ _ hm1) hm2 rfl ?_
  obtain ⟨of, hf1, hf2⟩ := fd_fn (P := w.params)
  obtain ⟨fd, hfd⟩ : ∃ fd, of.data = .func fd := by
    have : ∃ of' fd, (K2 w.params).lookup 191 = some of' ∧ of'.data = .func fd := ⟨_, _, by k_is, rfl⟩
    obtain ⟨of', fd, e1, e2⟩ := this
    rw [hf1] at e1; cases e1
    exact ⟨fd, e2⟩
  have H := Under.hid (l := [(y, foldObj w 65 dy 191 [] n), (dy, bag0)]) U (fun e he => List.mem_append_right _ he)
  refine missing_ct (s := ⟨h, gg, d, tk + 1, os⟩) (R := fun v h₀ h₁ => ∃ x dx, v = .ref x ∧ h₀.get? x = none ∧ h₀.get? dx = none ∧ @Ne Nat x dx ∧ h₁.get? x = some (foldObj w 65 dx 191 [] 0) ∧ h₁.get? dx = some bag0 ∧ @LT.lt Nat _ 255 x ∧ h₀.objs.size ≤ h₁.objs.size)
    (X.keeps H.2) (T.keeps H.2) H.1 (by (try dsimp only [Ar, Around.in1]); first | with_reducible exact room1 (by assumption) (by decide) | with_reducible exact room0 (by assumption) (by decide) | omega) (by (try dsimp only [Ar, Around.in1]); first | with_reducible exact room1 (by assumption) (by decide) | with_reducible exact room0 (by assumption) (by decide) | omega) (H.2 _ _ (X _ _ hf1)) hfd hxs rfl (by simp) ?_ ?_
  · intro fr' h₀ tk₀ kk hz0
    refine folder_ct (X.keeps (fun b o e => kk _ _ (U.kg _ _ e))) (T.keeps (fun b o e => kk _ _ (U.kg _ _ e))) (by (try dsimp only [Ar, Around.in1]); first | with_reducible exact room1 (by assumption) (by decide) | with_reducible exact room0 (by assumption) (by decide) | omega) (by (try dsimp only [Ar, Around.in1]); first | with_reducible exact room1 (by assumption) (by decide) | with_reducible exact room0 (by assumption) (by decide) | omega) (fun x dx h' tk' k1 n1 n2 ne o1 o2 big hz1 => ?_)
    exact ⟨h', tk', rfl, k1, x, dx, rfl, n1, n2, ne, o1, o2, big, hz1⟩
  · rintro v h₀ h₁ h' tk' kk k1 hz0 ⟨x, dx, rfl, n1, n2, ne, o1, o2, big, hsz⟩ hs hx'
    have nx : ∀ {b : Addr} {o : Obj}, h.get? b = some o → b ≠ x ∧ b ≠ dx := fun e => ⟨fun q => (by rw [← q, kk _ _ e] at n1; cases n1), fun q => (by rw [← q, kk _ _ e] at n2; cases n2)⟩
    have fre : ∀ a, h₀.get? a = none → g.get? a = none := fun a nn => by
      cases q : g.get? a with
      | none => rfl
      | some o => rw [kk _ _ (U.kg _ _ q)] at nn; cases nn
    have hne1 : @Ne Nat x y := fun e => (nx hy).1 e.symm
    have hne2 : @Ne Nat dx y := fun e => (nx hy).2 e.symm
    have e1 : (hid h [(y, foldObj w 65 dy 191 [] n), (dy, bag0)]).objs.size = h.objs.size := hideAll_size _ _
    rw [e1] at hz0
    have e2 : h'.objs.size = h₁.objs.size := hs.1
    have kp : ∀ b o, @Ne Nat b y → h.get? b = some o → h'.get? b = some o := fun b o hb e => by rw [hs.2 b hb]; exact k1 _ _ (kk _ _ e)
    refine hQ x dx h' tk' ⟨fun b o e => kp b o (fun q => by rw [show b = y from q, gy] at e; cases e) (U.kg _ _ e), by rw [e2]; exact Nat.le_trans U.sz (Nat.le_trans hz0 hsz), fun e he => ?_⟩ ne big (fun e he => nx (U.at_ e (List.mem_append_left _ he)).1)
    rcases List.mem_append.mp he with he | he
    · have := U.at_ e (List.mem_append_left _ he)
      exact ⟨kp _ _ (hap e he).1 this.1, this.2⟩
    · simp only [loose, List.mem_cons, List.not_mem_nil, or_false] at he
      rcases he with rfl | rfl
      · exact ⟨by rw [hs.2 _ hne1]; exact o1, fre _ n1⟩
      · exact ⟨by rw [hs.2 _ hne2]; exact o2, fre _ n2⟩
end
section
noncomputable abbrev Bears (h : Heap) (l : List (Addr × Obj)) : Prop := ∀ e ∈ l, h.get? e.1 = some e.2
theorem Bears.keeps {h h' : Heap} {l : List (Addr × Obj)} (B : Bears h l) (k : Keeps h h') : Bears h' l := fun e he => k _ _ (B e he)
theorem Bears.under {h : Heap} {l : List (Addr × Obj)} (B : Bears h l) : Under (hid h l) h l := ⟨fun b o e => of_hideAll _ e, Nat.le_of_eq (hideAll_size _ _), fun p hp => ⟨B p hp, hideAll_none _ (List.mem_map_of_mem hp)⟩⟩
theorem ty_dget : typeOf (.builtin "dict.get") = pure (.type "method_descriptor") := by show builtinType _ = _; rw [builtinType_eq_fast]; kernel_rfl
theorem ty_ditems : typeOf (.builtin "dict.items") = pure (.type "method_descriptor") := by show builtinType _ = _; rw [builtinType_eq_fast]; kernel_rfl
theorem ty_dpop : typeOf (.builtin "dict.pop") = pure (.type "method_descriptor") := by show builtinType _ = _; rw [builtinType_eq_fast]; kernel_rfl
theorem look_bag {w : World} {bag : Obj} {name : Str} (hb : bag = bag0 ∨ ∃ tk v, bag = bagF w tk v) (hn : name ≠ Str.ofString "_frozen") : lookIn name bag = some none := by
  rcases hb with rfl | ⟨tk, v, rfl⟩
  · rfl
  · have : (Value.str (Str.ofString "_frozen") tk).isStr name = false := by
      unfold Value.isStr
      simp only [beq_eq_false_iff_ne, ne_eq]
      intro e; exact hn (by first | exact e | exact e.symm)
    simp only [lookIn, bagF, List.find?_cons, List.find?_nil, this, List.any_cons, List.any_nil]
    rfl
section
variable {w : World} {S : TS} {pm : Value} {pth : Path} {A : Around} {E : Value → Shared → Prop} {s : Shared}
theorem meth_get : ∀ {w : World} {S : TS} {pm : Value} {pth : Path} {A : Around} {E : Value → Shared → Prop} {s : Shared} {pl : Sem Bool} {Q : Value × List Value → Shared → Prop} (X : (K2 w.params).In s.heap) (B : Bears s.heap (S.objs w pm)) (hp : S.On pth) (h : Q (.builtin "dict.get", [.ref (S.loc pth).x]) s)
    , wpAny (model PySem.Challenge.rw_il0142_02.row.prog w) A (getMethod (.ref (S.loc pth).x) "get" pl) Q E s := by
  k_fill
  intro w S pm pth A E s pl Q X B hp h
  obtain ⟨bag, _, I, hb⟩ := inst_bag (w := w) (pm := pm) B.under hp
  obtain ⟨hh, gg, d, tk, os⟩ := s
  exact get_method X I rfl (by k_is) (by k_is) (by k_is) ty_dget (look_bag hb (by decide +kernel)) h
theorem meth_items : ∀ {w : World} {S : TS} {pm : Value} {pth : Path} {A : Around} {E : Value → Shared → Prop} {s : Shared} {pl : Sem Bool} {Q : Value × List Value → Shared → Prop} (X : (K2 w.params).In s.heap) (B : Bears s.heap (S.objs w pm)) (hp : S.On pth) (h : Q (.builtin "dict.items", [.ref (S.loc pth).x]) s)
    , wpAny (model PySem.Challenge.rw_il0142_02.row.prog w) A (getMethod (.ref (S.loc pth).x) "items" pl) Q E s := by
  k_fill
  intro w S pm pth A E s pl Q X B hp h
  obtain ⟨bag, _, I, hb⟩ := inst_bag (w := w) (pm := pm) B.under hp
  obtain ⟨hh, gg, d, tk, os⟩ := s
  exact get_method X I rfl (by k_is) (by k_is) (by k_is) ty_ditems (look_bag hb (by decide +kernel)) h
theorem meth_pop : ∀ {w : World} {S : TS} {pm : Value} {pth : Path} {A : Around} {E : Value → Shared → Prop} {s : Shared} {pl : Sem Bool} {Q : Value × List Value → Shared → Prop} (X : (K2 w.params).In s.heap) (B : Bears s.heap (S.objs w pm)) (hp : S.On pth) (h : Q (.builtin "dict.pop", [.ref (S.loc pth).x]) s)
    , wpAny (model PySem.Challenge.rw_il0142_02.row.prog w) A (getMethod (.ref (S.loc pth).x) "pop" pl) Q E s := by
  k_fill
  intro w S pm pth A E s pl Q X B hp h
  obtain ⟨bag, _, I, hb⟩ := inst_bag (w := w) (pm := pm) B.under hp
  obtain ⟨hh, gg, d, tk, os⟩ := s
  exact get_method X I rfl (by k_is) (by k_is) (by k_is) ty_dpop (look_bag hb (by decide +kernel)) h
theorem do_get : ∀ {w : World} {S : TS} {pm : Value} {pth : Path} {A : Around} {E : Value → Shared → Prop} {s : Shared} {y : Str} {t : Tok} {Q : Value → Shared → Prop} (X : (K2 w.params).In s.heap) (W : WF S) (B : Bears s.heap (S.objs w pm)) (hp : S.On pth)
    (h : ∀ tk, Q (if pth ++ [y] ∈ S.kept then .ref (S.loc (pth ++ [y])).x else .none) { s with toks := tk })
    , wpAny (model PySem.Challenge.rw_il0142_02.row.prog w) A (call (.builtin "dict.get") [.ref (S.loc pth).x, .str y t]) Q E s := by
  k_fill
  intro w S pm pth A E s y t Q X W B hp h
  obtain ⟨bag, _, I, hb⟩ := inst_bag (w := w) (pm := pm) B.under hp
  obtain ⟨hh, gg, d, tk, os⟩ := s
  refine fold_get X I (by k_is) (by k_is) (xs_big (W.big _ hp)) ?_
  have e : (kfind (S.kids pth) y).getD .none = (if pth ++ [y] ∈ S.kept then .ref (S.loc (pth ++ [y])).x else .none) := by
    rw [kids_find]; split <;> rfl
  rw [e]; exact h _
theorem do_in : ∀ {w : World} {S : TS} {pm : Value} {pth : Path} {A : Around} {E : Value → Shared → Prop} {s : Shared} {y : Str} {t : Tok} {Q : Value → Shared → Prop} (X : (K2 w.params).In s.heap) (W : WF S) (B : Bears s.heap (S.objs w pm)) (hp : S.On pth)
    (h : ∀ tk, Q (.bool (decide (pth ++ [y] ∈ S.kept))) { s with toks := tk })
    , wpAny (model PySem.Challenge.rw_il0142_02.row.prog w) A (call (.builtin "dict.__contains__") [.ref (S.loc pth).x, .str y t]) Q E s := by
  k_fill
  intro w S pm pth A E s y t Q X W B hp h
  obtain ⟨bag, _, I, hb⟩ := inst_bag (w := w) (pm := pm) B.under hp
  obtain ⟨hh, gg, d, tk, os⟩ := s
  refine fold_in X I (by k_is) (xs_big (W.big _ hp)) ?_
  have e : (kfind (S.kids pth) y).isSome = decide (pth ++ [y] ∈ S.kept) := by
    rw [kids_find]; split <;> simp_all
  rw [e]; exact h _
theorem do_len : ∀ {w : World} {S : TS} {pm : Value} {pth : Path} {A : Around} {E : Value → Shared → Prop} {s : Shared} {Q : Value → Shared → Prop} (X : (K2 w.params).In s.heap) (W : WF S) (B : Bears s.heap (S.objs w pm)) (hp : S.On pth)
    (h : ∀ t tk, Q (.int (kidsAt S.kept pth).length t) { s with toks := tk })
    , wpAny (model PySem.Challenge.rw_il0142_02.row.prog w) A (call (.builtin "len") [.ref (S.loc pth).x]) Q E s := by
  k_fill
  intro w S pm pth A E s Q X W B hp h
  obtain ⟨bag, _, I, hb⟩ := inst_bag (w := w) (pm := pm) B.under hp
  obtain ⟨hh, gg, d, tk, os⟩ := s
  have hz := kids_len W pth
  refine fold_len X I (by k_is) (by k_is) (by k_is) (xs_big (W.big _ hp)) (by omega) (fun t1 t2 => ?_)
  have e : (S.kids pth).length = (kidsAt S.kept pth).length := by unfold TS.kids; rw [List.length_map]
  rw [e]; exact h _ _
end
end
local macro_rules | `(tactic| walk_at "exec For Name Name cons nil") => `(tactic| (k_here; (rename Fr _ _ _ _ => lF'); (with_unfolding_all refine' For_invVF lF' ?k1 ?k2 ?_; (case k1 => exact rfl); (case k2 => exact rfl))))
local macro_rules | `(tactic| walk_at "pyIter ref") => `(tactic| (k_here; refine stop ?_))
local macro_rules | `(tactic| walk_at "exec While Compare") => `(tactic| (k_here; refine stop ?_))
local macro_rules | `(tactic| walk_at "exec While BoolOp") => `(tactic| (k_here; refine stop ?_))
section
local macro_rules | `(tactic| walk_at "getMethod ref") => `(tactic| (
  (with_reducible show wpAny _ _ (getMethod (Value.ref (Loc.x _)) _ _) _ _ _);
  first
  | ((refine' meth_get ?X ?B ?p ?_); (case X => k_in); (case B => exact Bears.keeps (by assumption) (Fr.keep (by assumption))); (case p => assumption))
  | ((refine' meth_items ?X ?B ?p ?_); (case X => k_in); (case B => exact Bears.keeps (by assumption) (Fr.keep (by assumption))); (case p => assumption))))
local macro_rules | `(tactic| walk_at "call builtin:dict.get") => `(tactic| (
  (with_reducible show wpAny _ _ (PySem.call (Value.builtin "dict.get") [Value.ref (Loc.x _), Value.str _ _]) _ _ _);
  (refine' do_get ?X ?W ?B ?p ?_); (case X => k_in); (case W => assumption); (case B => exact Bears.keeps (by assumption) (Fr.keep (by assumption))); (case p => assumption);
  (first | rw [if_pos (by assumption)] | rw [if_neg (by assumption)]); intro _))

theorem on_take {S : TS} (W : WF S) {p : Path} (h : S.On p) : ∀ k, S.On (p.take k) := by
  have step : ∀ q, S.On q → S.On q.dropLast := fun q hq => by
    rcases hq.cases with rfl | hq
    · exact .nil
    · exact W.clo q hq
  have down : ∀ d, ∀ q : Path, S.On q → S.On (q.take (q.length - d)) := by
    intro d
    induction d with
    | zero => intro q hq; simpa using hq
    | succ d ih =>
      intro q hq
      have := ih q.dropLast (step q hq)
      rw [List.length_dropLast, List.dropLast_eq_take, List.take_take] at this
      have e : min (q.length - 1 - d) (q.length - 1) = q.length - (d + 1) := by rw [Nat.min_eq_left (Nat.sub_le _ _), Nat.sub_sub, Nat.add_comm 1]
      rw [e] at this; exact this
  intro k
  rcases Nat.lt_or_ge k p.length with hk | hk
  · have := down (p.length - k) p h
    rwa [Nat.sub_sub_self (Nat.le_of_lt hk)] at this
  · rw [List.take_of_length_le hk]; exact h
theorem found_ct : ∀ {w : World} {dp un : Nat} {fr : Option (List Env)} {gd : Option (List Code)} {s : Shared} {Q E : Value → Shared → Prop} {S : TS} {pm : Value} {ns : List Str} {nm : Addr} {vs : List Value} {nn : Nat}
   {p loose mg mb} 
   (X : (K2 w.params).In s.heap) (T : TopRead p loose mg mb s.heap) (hdp : dp + 12 < 1000) (hu : un + 80 < 9900)
   (W : WF S) (B : Bears s.heap (S.objs w pm)) (hnm : s.heap.get? nm = some (listOf vs.toArray nn)) (hv : StrsAre vs ns)
   (hQ : ∀ h' tk, Keeps s.heap h' → Q (if S.On ns then .ref (S.loc ns).x else .none) { s with heap := h', toks := tk })
   , wpAny (model PySem.Challenge.rw_il0142_02.row.prog w) (Ar dp un fr gd) (call (.ref 212) [.ref (S.loc []).x, .ref nm]) Q E s := by
  k_fill
  intro w dp un fr gd s Q E S pm ns nm vs nn p loose mg mb X T hdp hu W B hnm hv hQ
  refine' enter [(Str.ofString "top", .ref (S.loc []).x), (Str.ofString "names", .ref nm)] ?X ?T ?ho ?hcd ?hroom ?hbind ?hloc ?_ ?hco ?hgen ?hk ?hcell
  walk_at "my enter"
  k_steps
  unfold Stop
  rename Fr _ _ _ _ => F
  rename News _ _ _ _ => N
  refine for_list (σ := Path) (fun _ => []) (fun c => [(Str.ofString "at", .ref (S.loc c).x)]) (fun i c => c = ns.take i ∧ S.On c) [] rfl (.inr hnm) F N trivial trivial ⟨rfl, trivial⟩ ⟨rfl, .nil⟩ ?_ ?_
  · intro i v c h tk I it u hv' hP F' N' hcl hne
    obtain ⟨y, ty, rfl, hy⟩ := strsAre_get hv hv'
    obtain ⟨hc, hon⟩ := hP
    dsimp only [chain] at F' N'
    have hnx : ns.take (i + 1) = c ++ [y] := by rw [hc, List.take_add_one, hy]; rfl
    by_cases hin : c ++ [y] ∈ S.kept
    · k_steps
      refine TEnd.intro (c ++ [y]) (by assumption) (by assumption) trivial (by k_mem) trivial ⟨rfl, trivial⟩ ⟨hnx.symm, .kept hin⟩
    · have hoff : ¬ S.On ns := fun h => by
        have := on_take W h (i + 1)
        rw [hnx] at this
        rcases this.cases with e | e
        · simp at e
        · exact hin e
      rw [if_neg hoff] at hQ
      k_steps
      exact hQ _ _ (Fr.keep (by assumption))
  · intro c h tk u hP F' N'
    obtain ⟨hc, hon⟩ := hP
    dsimp only [chain] at F' N'
    rw [strsAre_len hv, List.take_length] at hc
    subst hc
    rw [if_pos hon] at hQ
    k_steps
    exact hQ _ _ (Fr.keep (by assumption))
end
section
set_option maxHeartbeats 400000
/-- one step of a way through the rows of places -/
noncomputable def goStep (icy : List Path) (st : List Path × Path × Bool) (n : Str) : List Path × Path × Bool :=
  if st.2.2 = true then (st.1, st.2.1 ++ [n], true)
  else if st.2.1 ++ [n] ∈ st.1 then (st.1, st.2.1 ++ [n], false)
  else if st.2.1 ∈ icy then (st.1, st.2.1 ++ [n], true) else (st.1 ++ [st.2.1 ++ [n]], st.2.1 ++ [n], false)
noncomputable def goS (icy kept : List Path) (ns : List Str) : List Path × Path × Bool := ns.foldl (goStep icy) (kept, [], false)
theorem goStep_p (icy : List Path) (st : List Path × Path × Bool) (n : Str) : (goStep icy st n).2.1 = st.2.1 ++ [n] := by
  unfold goStep
  split
  · rfl
  · split
    · rfl
    · split <;> rfl
theorem goS_p (icy kept : List Path) (ns : List Str) : (goS icy kept ns).2.1 = ns := by
  have key : ∀ (l : List Str) st, (l.foldl (goStep icy) st).2.1 = st.2.1 ++ l := by
    intro l
    induction l with
    | nil => intro st; simp
    | cons a r ih => intro st; rw [List.foldl_cons, ih, goStep_p]; simp
  unfold goS; rw [key]; rfl
theorem goS_take (icy kept : List Path) (ns : List Str) {i : Nat} {n : Str} (h : ns[i]? = some n) : goS icy kept (ns.take (i + 1)) = goStep icy (goS icy kept (ns.take i)) n := by
  unfold goS; exact take_foldl _ _ _ h
noncomputable abbrev notUnder (p : Path) (q : Path) : Bool := !decide (p <+: q)
/-- what _law_due does: the answer, and the two rows behind it -/
noncomputable def dueS (D : Nat) (kept icy : List Path) (k : Nat) (ns : Path) : Dat × List Path × List Path :=
  if k = 3 then (.int ((List.range' 1 ns.length).countP fun j => decide (ns.take j ∈ kept) : Nat), kept, icy)
  else if k = 4 then
    if ns ∈ kept then (.list ((belowS D kept ns).map fun q => .str (pathR sl q)), kept.filter (notUnder ns), icy.filter (notUnder ns)) else (.none, kept, icy)
  else
    let st := goS icy kept ns
    if st.2.2 = true then (.tuple [.bool false, .int 0], st.1, icy)
    else (.tuple [.bool true, .int ((kidsAt st.1 ns).length : Nat)], st.1, if k = 2 ∧ ns ∉ icy then icy ++ [ns] else icy)
end
section
set_option maxHeartbeats 400000
/-- a call of a def with two cells, seen from a smaller ground -/
theorem enterC2 {prog : Program} {w : World} {A : Around} {s : Shared} {K : Frag} {Q E : Value → Shared → Prop} {g : Heap} {news : List (Addr × Obj)}
    {p : Program} {loose : List Str} {mg mb : Str → Option Value}
    {name qual : Str} {params : Arguments} {body : List Stmt} {scope : Scope} {dV kV doc pm cdv ct oc : Value} {an od : Option Addr} {osl : Array (Option Value)} {f : Addr} {pos : List Value} (binds : List (Str × Value)) (nc : Str) (vc : Value) (nd : Str) (vd : Value)
    (X : K.In g) (T : TopRead p loose mg mb g) (U : Under g s.heap news)
    (ho : K.lookup f = some ⟨oc, od, .func (fnOf name qual params body scope dV kV doc pm an cdv ct), osl⟩) (hcd : codeIn K cdv qual = true) (hroom : A.depth < recursionLimit)
    (hbind : bindArgs (fnOf name qual params body scope dV kV doc pm an cdv ct) ⟨pos, []⟩ = pure binds)
    (hcs : ∀ k, cellsFrom k scope.names [] = [(nd, k + 1), (nc, k)])
    (hkind : ∀ x ∈ binds, scope.names.lookup x.1 = some .local ∨ (scope.names.lookup x.1 = some .cell ∧ (x.1 = nc ∨ x.1 = nd)))
    (hval : ∀ L', bindC (envX qual scope L' f cdv [(nd, L' + 2), (nc, L' + 1)]).kindOf binds (fun _ => none) nc = some vc)
    (hval2 : ∀ L', bindC (envX qual scope L' f cdv [(nd, L' + 2), (nc, L' + 1)]).kindOf binds (fun _ => none) nd = some vd)
    (hne : nc ≠ nd)
    (h : ∀ L' c d h₁ tk o o2, Fr g L' h₁ (bindL (envX qual scope L' f cdv [(nd, d), (nc, c)]).kindOf binds fun _ => none) → News g L' h₁ ((c, o) :: (d, o2) :: news) → o.data = .cell (some vc) → o2.data = .cell (some vd) → (∀ b o, s.heap.get? b = some o → h₁.get? b = some o) → s.heap.get? c = none → s.heap.get? d = none → @LT.lt Nat _ c d →
      wpAny (model prog w) (A.deeper (envX qual scope L' f cdv [(nd, d), (nc, c)])) (execs body (envX qual scope L' f cdv [(nd, d), (nc, c)]))
        (fun fl s' => Q (match fl with | .ret v => v | _ => .none) s')
        (fun _ _ => False)
        { s with heap := h₁, toks := tk })
    (hco : scope.isCoroutine = false) (hgen : scope.isGenerator = false) (hk : scope.kind = .function) : wpAny (model prog w) A (PySem.call (.ref f) pos []) Q E s := by
  refine wpAny_call ?_
  refine codeAny_call_cells (fd := fnOf name qual params body scope dV kV doc pm an cdv ct) (body := body) hroom ((X.keeps U.kg) _ _ ho) rfl (T.nolimit.keeps U.kg) (codeRec_of (X.keeps U.kg) hcd) rfl hbind rfl (fun x hx => ?_) (fun s₁ Y => ?_) hco hgen hk
  · rcases hkind x hx with e | ⟨e, e2⟩
    · exact .inl e
    · refine .inr ⟨e, ?_⟩
      show ((cellsFrom (s.heap.objs.size + 1) scope.names []).lookup x.1).isSome = true
      rw [hcs]
      rcases e2 with e2 | e2
      · rw [e2, List.lookup_cons]
        split
        · rfl
        · simp
      · rw [e2]; simp
  · obtain ⟨h₁, tk, rfl, _⟩ := Y.done
    have e : callEnvC (fnOf name qual params body scope dV kV doc pm an cdv ct) s.heap.objs.size f = envX qual scope s.heap.objs.size f cdv [(nd, s.heap.objs.size + 2), (nc, s.heap.objs.size + 1)] := by
      unfold callEnvC newEnv
      rw [show (fnOf name qual params body scope dV kV doc pm an cdv ct).scope = scope from rfl, hcs]
    rw [e] at Y ⊢
    have hl1 : ([(nd, s.heap.objs.size + 2), (nc, s.heap.objs.size + 1)] : List (Str × Addr)).lookup nc = some (s.heap.objs.size + 1) := by
      have hb : (nc == nd) = false := by simpa using hne
      simp [List.lookup_cons, hb]
    obtain ⟨o, hoc, hod⟩ := Y.cell nc (s.heap.objs.size + 1) hl1
    obtain ⟨o2, hoc2, hod2⟩ := Y.cell nd (s.heap.objs.size + 2) (by simp)
    rw [hval] at hod
    rw [hval2] at hod2
    have kp := Y.toInCall.keep
    have hfr : s.heap.get? (s.heap.objs.size + 1) = none := Heap.get?_none_of_le (Nat.le_succ _)
    have hfr2 : s.heap.get? (s.heap.objs.size + 2) = none := Heap.get?_none_of_le (Nat.le_succ_of_le (Nat.le_succ _))
    have gn : ∀ a, s.heap.get? a = none → g.get? a = none := fun a n => by
      cases q : g.get? a with
      | none => rfl
      | some o' => rw [U.kg _ _ q] at n; cases n
    refine wpAny_mono (h s.heap.objs.size (s.heap.objs.size + 1) (s.heap.objs.size + 2) h₁ tk o o2 ⟨Y.toInCall.ns, fun b o e => kp b o (U.kg b o e), U.sz⟩ (fun p hp => ?_) hod hod2 kp hfr hfr2 (Nat.lt_succ_self _)) (fun fl s' hl => hl) fun _ _ y => y.elim
    rcases List.mem_cons.mp hp with rfl | hp
    · exact ⟨hoc, Nat.ne_of_gt (Nat.lt_succ_self _), gn _ hfr⟩
    · rcases List.mem_cons.mp hp with rfl | hp
      · exact ⟨hoc2, Nat.ne_of_gt (Nat.lt_succ_of_lt (Nat.lt_succ_self _)), gn _ hfr2⟩
      · exact ⟨kp _ _ (U.at_ p hp).1, Nat.ne_of_lt (Heap.lt_size (U.at_ p hp).1), (U.at_ p hp).2⟩
end
section
set_option maxHeartbeats 400000
/-- no other thing than the iterator is of its class and at its place -/
noncomputable def OffI (n : String) (I : Addr) : List (Addr × Obj) → Prop
  | [] => True
  | p :: r => (p.2.cls ≠ .type n ∨ @Ne Nat p.1 I) ∧ OffI n I r
theorem OffI.ne {n : String} {I : Addr} {l : List (Addr × Obj)} (h : OffI n I l) : ∀ p ∈ l, p.2.cls ≠ .type n ∨ @Ne Nat p.1 I := by
  induction l with
  | nil => intro p hp; cases hp
  | cons a r ih =>
    intro p hp
    rcases List.mem_cons.mp hp with e | hp
    · rw [e]; exact h.1
    · exact ih h.2 p hp
theorem OffI.of_ne {n : String} {I : Addr} {l : List (Addr × Obj)} (h : ∀ p ∈ l, p.2.cls ≠ .type n ∨ @Ne Nat p.1 I) : OffI n I l := by
  induction l with
  | nil => trivial
  | cons a r ih => exact ⟨h a (.head _), ih fun p hp => h p (.tail _ hp)⟩
noncomputable def TEnd2 {σ : Type} (g : Heap) (L : Addr) (Led : σ → List (Addr × Obj)) (ps : σ → List (Str × Value)) (P : σ → Prop) (icls : String) (it : Addr × Obj) (s₁ s₂ : Shared) : Prop :=
  ∃ c h' tk m' news', s₂ = { s₁ with heap := h', toks := tk } ∧ Fr g L h' m' ∧ News g L h' news' ∧ Sub news' (Led c) ∧ it ∈ news' ∧ OffI icls it.1 (Led c) ∧ AllAt m' (ps c) ∧ P c
noncomputable def TPost2 {σ : Type} (g : Heap) (L : Addr) (Led : σ → List (Addr × Obj)) (ps : σ → List (Str × Value)) (P : σ → Prop) (icls : String) (it : Addr × Obj) (s₁ : Shared) (Q : Flow → Shared → Prop) (f : Flow) (s₂ : Shared) : Prop :=
  match f with
  | .ret v => Q (.ret v) s₂
  | .brk => Q .next s₂
  | _ => TEnd2 g L Led ps P icls it s₁ s₂
theorem TEnd2.intro {σ : Type} {g : Heap} {L : Addr} {Led : σ → List (Addr × Obj)} {ps : σ → List (Str × Value)} {P : σ → Prop} {icls : String} {it : Addr × Obj} {s₁ : Shared} (c : σ) {h' : Heap} {tk : Nat} {m' : Str → Option Value} {news' : List (Addr × Obj)}
    (F : Fr g L h' m') (N : News g L h' news') (h1 : Sub news' (Led c)) (h2 : it ∈ news') (h3 : OffI icls it.1 (Led c)) (h4 : AllAt m' (ps c)) (h5 : P c) : TEnd2 g L Led ps P icls it s₁ { s₁ with heap := h', toks := tk } :=
  ⟨c, h', tk, m', news', rfl, F, N, h1, h2, h3, h4, h5⟩
section
variable {prog : Program} {w : World} {A : Around} {E : Value → Shared → Prop} {s : Shared} {env : Env} {g : Heap} {x : Str} {body : List Stmt} {Q : Flow → Shared → Prop}

theorem for_core2 {σ : Type} {I : Addr} {src : List (Addr × Obj)} {n : Nat} {PV : Nat → Value → Prop} {St : Nat → Heap → Prop} {icls : String} {m₀ : Str → Option Value} {news : List (Addr × Obj)}
    (Led : σ → List (Addr × Obj)) (ps : σ → List (Str × Value)) (P : Nat → σ → Prop) (c₀ : σ)
    (W : Walks prog w A I (I :: src.map (·.1)) [I] n PV St)
    (hob : ∀ i h, St i h → ∃ o, h.get? I = some o ∧ o.cls = .type icls)
    (hsrc : ∀ q ∈ src, (∀ c, q ∈ Led c) ∨ g.get? q.1 = some q.2)
    (hst : St 0 s.heap) (hI : g.get? I = none) (hLI : env.locals ≠ I) (hLs : ∀ q ∈ src, env.locals ≠ q.1)
    (F : Fr g env.locals s.heap m₀) (N : News g env.locals s.heap news) (h1 : ∀ p ∈ Led c₀, p ∈ news) (h3 : AllAt m₀ (ps c₀)) (h4 : P 0 c₀)
    (hIn : ∀ p ∈ news, p.1 ≠ I)
    (turn : ∀ i v c h tk it u, i < n → PV i v → P i c → Fr g env.locals h (fun y => if y = x then some v else chain (ps c) u y) → News g env.locals h ((I, it) :: Led c) → it.cls = .type icls → AllNe I (Led c) →
      wpAny (model prog w) A (execs body env) (TPost2 g env.locals Led ps (P (i + 1)) icls (I, it) { s with heap := h, toks := tk } Q) E { s with heap := h, toks := tk })
    (done : ∀ c h tk u, P n c → Fr g env.locals h (chain (ps c) u) → News g env.locals h (Led c) → Q .next { s with heap := h, toks := tk }) :
    LoopAtV prog w A g env x body Q E (.ref I) s := by
  refine ⟨I, _, [I], n, PV, St, m₀, Led c₀, (fun i m nx => ∃ c, nx = Led c ∧ AllAt m (ps c) ∧ P i c ∧ OffI icls I (Led c)), rfl, W, ?_, ?_, ?_, hst, F, (fun p hp => N p (h1 p hp)), ⟨c₀, rfl, h3, h4, .of_ne fun p hp => .inr (hIn p (h1 p hp))⟩, ?_, ?_⟩
  · intro hm
    rcases List.mem_cons.mp hm with e | hm
    · exact hLI e
    · obtain ⟨q, hq, e⟩ := List.mem_map.mp hm
      exact hLs q hq e.symm
  · intro b hb
    rw [List.mem_singleton.mp hb]; exact hI
  · intro p hp hb
    exact hIn p (h1 p hp) (List.mem_singleton.mp hb)
  · rintro i v m₁ news₁ s₁ own ⟨hh, tk, rfl⟩ hi hP ⟨c, rfl, hps, hPc, hoff⟩ hnw hown hget hall hst₁ F₁ N₁
    obtain ⟨it, hit, hcl⟩ := hob _ _ hst₁
    have hio : (I, it) ∈ own := hall I (.head _) hI it hit
    have F₂ : Fr g env.locals hh (fun y => if y = x then some v else chain (ps c) m₁ y) := by rw [chain_of hps]; exact F₁
    have N₂ : News g env.locals hh ((I, it) :: Led c) := fun p hp => by
      rcases List.mem_cons.mp hp with rfl | hp
      · exact N₁ _ (List.mem_append_left _ hio)
      · exact N₁ _ (List.mem_append_right _ hp)
    refine wpAny_mono (turn i v c hh tk it m₁ hi hP hPc F₂ N₂ hcl (allNe_of fun p hp e => hnw p hp (by rw [e]; exact .head _))) (fun f s₂ p => ?_) fun _ _ e => e
    have fin : TEnd2 g env.locals Led ps (P (i + 1)) icls (I, it) { s with heap := hh, toks := tk } s₂ →
        LoopStepU g env.locals [I] own (fun m nx => ∃ c, nx = Led c ∧ AllAt m (ps c) ∧ P (i + 1) c ∧ OffI icls I (Led c)) { s with heap := hh, toks := tk } .next s₂ := by
      rintro ⟨c', h', tk', m', news', rfl, F', N', hsub, hit', hoff', hps', hP'⟩
      refine ⟨rfl, h', tk', m', Led c', rfl, F', fun p hp => ?_, fun p hp hb => ?_, c', rfl, hps', hP', hoff'⟩
      · rcases List.mem_append.mp hp with hp | hp
        · rcases List.mem_cons.mp (hown p hp) with e | hq
          · have h5 := hget p hp
            have h6 : p = (I, it) := Prod.ext e (by
              have h7 : hh.get? p.1 = some p.2 := h5
              rw [e, hit] at h7; exact (Option.some.inj h7).symm)
            rw [h6]; exact N' _ hit'
          · obtain ⟨q, hq, e⟩ := List.mem_map.mp hq
            have h5 : hh.get? p.1 = some p.2 := hget p hp
            rcases hsrc q hq with h7 | h7
            · have h8 := (N₁ q (List.mem_append_right _ (h7 c))).1
              have h9 : p = q := Prod.ext e.symm (by rw [← e] at h5; rw [show hh.get? q.1 = some q.2 from h8] at h5; exact (Option.some.inj h5).symm)
              rw [h9]; exact N' _ (hsub.mem q (h7 c'))
            · have h8 := (N₁ p (List.mem_append_left _ hp)).2.2
              rw [← e, h7] at h8; cases h8
        · exact N' p (hsub.mem p hp)
      · have e : p.1 = I := List.mem_singleton.mp hb
        have h5 := (N' p (hsub.mem p hp)).1
        rw [e, (N' _ hit').1] at h5
        have h6 : p.2 = it := (Option.some.inj h5).symm
        rcases hoff'.ne p hp with hh | hh
        · exact hh (by rw [h6]; exact hcl)
        · exact hh e
    cases f with
    | ret v => exact .ret p
    | brk => exact .brk p
    | next => exact .next (fin p)
    | cont => exact .cont (fin p)
  · rintro h' tk m' news' F' N' _ ⟨c, rfl, hps, hP, _⟩
    refine done c h' tk m' hP ?_ N'
    rw [chain_of hps]; exact F'

theorem for_list2 {σ : Type} {l : Addr} {vs : List Value} {nn : Nat} {m₀ : Str → Option Value} {news : List (Addr × Obj)}
    (Led : σ → List (Addr × Obj)) (ps : σ → List (Str × Value)) (P : Nat → σ → Prop) (c₀ : σ)
    (hh : A.handled = none) (hsrc : Stands g Led (l, listOf vs.toArray nn))
    (F : Fr g env.locals s.heap m₀) (N : News g env.locals s.heap news) (h1 : Sub news (Led c₀)) (h3 : AllAt m₀ (ps c₀)) (h4 : P 0 c₀)
    (turn : ∀ i v c h tk I it u, vs[i]? = some v → P i c → Fr g env.locals h (fun y => if y = x then some v else chain (ps c) u y) → News g env.locals h ((I, it) :: Led c) → it.cls = .type "list_iterator" → AllNe I (Led c) →
      wpAny (model prog w) A (execs body env) (TPost2 g env.locals Led ps (P (i + 1)) "list_iterator" (I, it) { s with heap := h, toks := tk } Q) E { s with heap := h, toks := tk })
    (done : ∀ c h tk u, P vs.length c → Fr g env.locals h (chain (ps c) u) → News g env.locals h (Led c) → Q .next { s with heap := h, toks := tk }) :
    wpAny (model prog w) A (pyIter (.ref l)) (fun it s₂ => LoopAtV prog w A g env x body Q E it s₂) E s := by
  obtain ⟨hol, hlL⟩ := hsrc.now F N c₀ h1.mem
  have hls : s.heap.IsList l vs.toArray := ⟨_, hol, rfl, nn, rfl⟩
  have hne : l ≠ s.heap.objs.size := Nat.ne_of_lt (Heap.lt_size hol)
  refine wpAny_pyIter_list hls ?_
  have W := Walks.list (prog := prog) (w := w) hh s.heap.objs.size l hne vs.toArray
  have hlen : vs.toArray.size = vs.length := by simp
  rw [hlen] at W
  refine for_core2 (s := { s with heap := s.heap.push _ }) (src := [(l, listOf vs.toArray nn)]) (icls := "list_iterator") Led ps P c₀ W ?_ ?_ ⟨⟨_, Heap.get?_push_size _ rfl, rfl, rfl⟩, hls.at fun o e => Heap.get?_push_of_some _ e⟩ (next_is_new F) (Nat.ne_of_lt F.ns.lt) ?_ (F.push _) (fun p hp => ⟨Heap.get?_push_of_some _ (N p hp).1, (N p hp).2⟩) h1.mem h3 h4 ?_ ?_ ?_
  · rintro i h ⟨⟨o, a, b, _⟩, _⟩; exact ⟨o, a, b⟩
  · intro q hq; rw [List.mem_singleton.mp hq]; exact hsrc
  · intro q hq; rw [List.mem_singleton.mp hq]; exact fun e => hlL e.symm
  · intro p hp e; exact absurd (Heap.lt_size (N p hp).1) (e ▸ Nat.lt_irrefl _)
  · intro i v c h tk it u hi hP hPc F' N' hcl hne
    exact turn i v c h tk _ it u (by simpa using hP) hPc F' N' hcl hne
  · exact fun c h tk u a b d => done c h tk u a b d

end
end
section

theorem pick_init (vs : List Value) : slicePick vs.toArray none (some (-1)) none = vs.dropLast.toArray := by
  have e : sliceBounds none (some (-1)) none vs.toArray.size = (((0 : Nat) : Int), ((vs.length - 1 : Nat) : Int), 1) := by
    unfold sliceBounds
    simp only [List.size_toArray]
    refine Prod.ext ?_ (Prod.ext ?_ rfl)
    · rfl
    · have h1 : (none : Option Int).getD 1 > 0 := by decide
      dsimp only
      rw [if_pos h1, if_pos (by decide)]
      generalize vs.length = n
      cases n with
      | zero => rfl
      | succ n => rw [neg1, Int.min_eq_left (Int.ofNat_le.mpr (Nat.le_succ n)), Int.max_eq_right (Int.natCast_nonneg n)]; rfl
  rw [kmk_pick_nat _ e]
  simp [List.dropLast_eq_take]
theorem strs_init {vs : List Value} {ys : List Str} (h : StrsAre vs ys) : StrsAre vs.dropLast ys.dropLast := by
  rcases lsnoc vs with rfl | ⟨a, b, rfl⟩
  · cases h; exact .nil
  · obtain ⟨zs, y, t, rfl, rfl, h2⟩ := strsAre_unsnoc h
    simpa using h2
theorem any_two (w : Str) : ([Str.ofString "", Str.ofString "."].any fun x => x == w) = (w == Str.ofString "" || w == dot) := by
  have key : ∀ a : Str, (a == w) = (w == a) := fun a => by
    by_cases h : a = w
    · rw [h]
    · rw [beq_eq_false_iff_ne.mpr h, beq_eq_false_iff_ne.mpr (fun e => h e.symm)]
  simp only [List.any_cons, List.any_nil, Bool.or_false, key]
theorem names_ct : ∀ {w : World} {dp un : Nat} {fr : Option (List Env)} {gd : Option (List Code)} {s : Shared} {Q E : Value → Shared → Prop} {nm st : Addr} {vs ws : List Value} {nn sn : Nat} {ns bs : List Str}
   {p loose mg mb} {g : Heap}
   (X : (K2 w.params).In g) (T : TopRead p loose mg mb g) (U : Under g s.heap [(nm, listOf vs.toArray nn)]) (hdp : dp + 8 < 1000) (hu : un + 60 < 9900)
   (hst : g.get? st = some (listOf ws.toArray sn)) (hws : StrsAre ws bs) (hvs : StrsAre vs ns) (hlen : ns.length + (bs.map fun b => b.length + 1).sum ≤ 100000)
   (hQ : ∀ a us un h' tk, Under g h' [(a, listOf (us : List Value).toArray un)] → StrsAre us (bs.foldl lawStep ns) → Q (.ref a) { s with heap := h', toks := tk })
   , wpAny (model PySem.Challenge.rw_il0142_02.row.prog w) (Ar dp un fr gd) (call (.ref 233) [.ref nm, .ref st]) Q E s := by
  k_fill
  intro w dp un fr gd s Q E nm st vs ws nn sn ns bs p loose mg mb g X T U hdp hu hst hws hvs hlen hQ
  refine' enterG [(Str.ofString "names", .ref nm), (Str.ofString "steps", .ref st)] ?X ?T ?U ?ho ?hcd ?hroom ?hbind ?hloc ?_ ?hco ?hgen ?hk ?hcell
  case U => assumption
  walk_at "my enter"
  k_steps
  unfold Stop
  rename Fr _ _ _ _ => F
  rename News _ _ _ _ => N
  refine for_list2 (σ := Addr × List Value × Nat) (fun c => [(c.1, listOf c.2.1.toArray c.2.2)]) (fun c => [(Str.ofString "names", .ref c.1)])
    (fun i c => StrsAre c.2.1 ((bs.take i).foldl lawStep ns) ∧ c.2.1.length ≤ ns.length + ((bs.take i).map fun b => b.length + 1).sum) (nm, vs, nn) rfl (.inr hst) F N ⟨.head _, trivial⟩ ⟨rfl, trivial⟩ ⟨hvs, by rw [strsAre_len hvs]; simp⟩ ?_ ?_
  · rintro i v ⟨na, us, un'⟩ h tk I it u hv ⟨hP1, hP2⟩ F' N' hcl hne
    obtain ⟨b, tb, rfl, hb⟩ := strsAre_get hws hv
    dsimp only [chain] at F' N' hP1 hP2
    simp only [AllNe, and_true] at hne
    have h3 : ((bs.take (i + 1)).map fun b => b.length + 1).sum = ((bs.take i).map fun b => b.length + 1).sum + (b.length + 1) := by
      rw [List.take_add_one, hb]; simp
    have h4 := sum_take_le (bs.map fun b => b.length + 1) (i + 1)
    rw [← List.map_take] at h4
    have hsc : (Txt.split b sl).length ≤ b.length + 1 := split_count b
    have hsc' : (Txt.split b (Str.ofString "/")).length ≤ b.length + 1 := split_count b
    have hstep : (bs.take (i + 1)).foldl lawStep ns = lawStep ((bs.take i).foldl lawStep ns) b := take_foldl _ _ _ hb
    k_steps
    · unfold Stop
      rename_i NA _ _ _ hlt1 _ _ _ D l' _ _ he' ha' F N hlt2
      rw [he'] at ha'
      refine for_list2 (σ := Addr × List Value × Nat) (fun c => [(D, listOf (strValues l').toArray 0), (I, it), (c.1, listOf c.2.1.toArray c.2.2)]) (fun c => [(Str.ofString "names", .ref c.1)])
        (fun j c => StrsAre c.2.1 (((Txt.split b sl).take j).foldl wordStep ([] : List Str)) ∧ c.2.1.length ≤ List.length ([] : List Value) + j) (NA, ([] : List Value), 0) rfl (.inl fun _ => .head _) F N ⟨by k_mem, by k_mem, by k_mem, trivial⟩ ⟨rfl, trivial⟩ ⟨.nil, Nat.le_refl _⟩ ?_ ?_
      · rintro j v' ⟨na', us', un''⟩ h' tk' I' it' u' hv' ⟨hR1, hR2⟩ F2 N2 hcl' hne'
        obtain ⟨wd, tw, rfl, hwd⟩ := strsAre_get ha' hv'
        dsimp only [chain] at F2 N2 hR1 hR2
        simp only [AllNe, and_true] at hne'
        have hjl : j < (Txt.split b sl).length := (List.getElem?_eq_some_iff.mp hwd).1
        have hws' : ((Txt.split b sl).take (j + 1)).foldl wordStep [] = wordStep (((Txt.split b sl).take j).foldl wordStep []) wd := take_foldl _ _ _ hwd
        k_steps
        · (rename News _ _ _ _ => NE)
          rw [pick_init] at NE
          refine TEnd2.intro (_, us'.dropLast, 0) (by assumption) NE ⟨by k_mem, by k_mem, by k_mem, trivial⟩ (by k_mem) ⟨.inl (by simp), .inr hne'.2.1, .inl (by simp), trivial⟩ ⟨rfl, trivial⟩ ⟨?_, ?_⟩
          · rw [hws']; unfold wordStep; rw [if_pos (by assumption)]
            exact strs_init hR1
          · simp only [List.length_dropLast]; omega
        · refine TEnd2.intro (_, us', _) (by assumption) (by assumption) ⟨by k_mem, by k_mem, by k_mem, trivial⟩ (by k_mem) ⟨.inl (by simp), .inr hne'.2.1, .inl (by simp), trivial⟩ ⟨rfl, trivial⟩ ⟨?_, ?_⟩
          · rw [hws']; unfold wordStep; rw [if_neg (by rw [Bool.not_eq_true]; assumption), if_pos (by rw [← any_two]; assumption)]
            exact hR1
          · dsimp only; omega
        · (rename News _ _ _ _ => NE)
          refine TEnd2.intro (_, us' ++ [.str wd tw], 0) (by assumption) NE ⟨by k_mem, by k_mem, by k_mem, trivial⟩ (by k_mem) ⟨.inl (by simp), .inr hne'.2.1, .inl (by simp), trivial⟩ ⟨rfl, trivial⟩ ⟨?_, ?_⟩
          · rw [hws']; unfold wordStep; rw [if_neg (by rw [Bool.not_eq_true]; assumption), if_neg (by rw [← any_two, Bool.not_eq_true]; assumption)]
            exact strsAre_snoc (by assumption) _ _
          · simp only [List.length_append, List.length_cons, List.length_nil] at *; omega
      · rintro ⟨na', us', un''⟩ h' tk' u' ⟨hR1, hR2⟩ F2 N2
        dsimp only [chain] at F2 N2 hR1 hR2
        rw [strsAre_len ha', List.take_length] at hR1
        k_steps
        refine TEnd2.intro (na', us', un'') (by assumption) (by assumption) ⟨by k_mem, trivial⟩ (by k_mem) ⟨.inl (by simp), trivial⟩ ⟨rfl, trivial⟩ ⟨?_, ?_⟩
        · rw [hstep]; unfold lawStep; rw [if_pos (by assumption)]; exact hR1
        · rw [strsAre_len ha'] at hR2
          try simp only [List.length_nil] at hR2
          dsimp only; omega
    · unfold Stop
      rename_i _ _ _ D l' _ _ he' ha' F N hlt2
      rw [he'] at ha'
      refine for_list2 (σ := Addr × List Value × Nat) (fun c => [(D, listOf (strValues l').toArray 0), (I, it), (c.1, listOf c.2.1.toArray c.2.2)]) (fun c => [(Str.ofString "names", .ref c.1)])
        (fun j c => StrsAre c.2.1 (((Txt.split b sl).take j).foldl wordStep ((bs.take i).foldl lawStep ns)) ∧ c.2.1.length ≤ List.length us + j) (na, us, un') rfl (.inl fun _ => .head _) F N ⟨by k_mem, by k_mem, by k_mem, trivial⟩ ⟨rfl, trivial⟩ ⟨hP1, Nat.le_refl _⟩ ?_ ?_
      · rintro j v' ⟨na', us', un''⟩ h' tk' I' it' u' hv' ⟨hR1, hR2⟩ F2 N2 hcl' hne'
        obtain ⟨wd, tw, rfl, hwd⟩ := strsAre_get ha' hv'
        dsimp only [chain] at F2 N2 hR1 hR2
        simp only [AllNe, and_true] at hne'
        have hjl : j < (Txt.split b sl).length := (List.getElem?_eq_some_iff.mp hwd).1
        have hws' : ((Txt.split b sl).take (j + 1)).foldl wordStep ((bs.take i).foldl lawStep ns) = wordStep (((Txt.split b sl).take j).foldl wordStep ((bs.take i).foldl lawStep ns)) wd := take_foldl _ _ _ hwd
        k_steps
        · (rename News _ _ _ _ => NE)
          rw [pick_init] at NE
          refine TEnd2.intro (_, us'.dropLast, 0) (by assumption) NE ⟨by k_mem, by k_mem, by k_mem, trivial⟩ (by k_mem) ⟨.inl (by simp), .inr hne'.2.1, .inl (by simp), trivial⟩ ⟨rfl, trivial⟩ ⟨?_, ?_⟩
          · rw [hws']; unfold wordStep; rw [if_pos (by assumption)]
            exact strs_init hR1
          · simp only [List.length_dropLast]; omega
        · refine TEnd2.intro (_, us', _) (by assumption) (by assumption) ⟨by k_mem, by k_mem, by k_mem, trivial⟩ (by k_mem) ⟨.inl (by simp), .inr hne'.2.1, .inl (by simp), trivial⟩ ⟨rfl, trivial⟩ ⟨?_, ?_⟩
          · rw [hws']; unfold wordStep; rw [if_neg (by rw [Bool.not_eq_true]; assumption), if_pos (by rw [← any_two]; assumption)]
            exact hR1
          · dsimp only; omega
        · (rename News _ _ _ _ => NE)
          refine TEnd2.intro (_, us' ++ [.str wd tw], 0) (by assumption) NE ⟨by k_mem, by k_mem, by k_mem, trivial⟩ (by k_mem) ⟨.inl (by simp), .inr hne'.2.1, .inl (by simp), trivial⟩ ⟨rfl, trivial⟩ ⟨?_, ?_⟩
          · rw [hws']; unfold wordStep; rw [if_neg (by rw [Bool.not_eq_true]; assumption), if_neg (by rw [← any_two, Bool.not_eq_true]; assumption)]
            exact strsAre_snoc (by assumption) _ _
          · simp only [List.length_append, List.length_cons, List.length_nil] at *; omega
      · rintro ⟨na', us', un''⟩ h' tk' u' ⟨hR1, hR2⟩ F2 N2
        dsimp only [chain] at F2 N2 hR1 hR2
        rw [strsAre_len ha', List.take_length] at hR1
        k_steps
        refine TEnd2.intro (na', us', un'') (by assumption) (by assumption) ⟨by k_mem, trivial⟩ (by k_mem) ⟨.inl (by simp), trivial⟩ ⟨rfl, trivial⟩ ⟨?_, ?_⟩
        · rw [hstep]; unfold lawStep; rw [if_neg (by rw [Bool.not_eq_true]; assumption)]; exact hR1
        · rw [strsAre_len ha'] at hR2
          try simp only [List.length_nil] at hR2
          dsimp only; omega
  · rintro ⟨na, us, un'⟩ h tk u ⟨hP1, hP2⟩ F' N'
    dsimp only [chain] at F' N' hP1 hP2
    rw [strsAre_len hws, List.take_length] at hP1
    k_steps
    have N2 := N'
    exact hQ _ us un' _ _ ⟨Fr.keep (by assumption), Nat.le_of_lt (Nat.lt_of_le_of_lt (Fr.above (by assumption)) (Fr.ns (by assumption)).lt), fun p hp => by rw [List.mem_singleton.mp hp]; exact ⟨(N2 _ (.head _)).1, (N2 _ (.head _)).2.2⟩⟩ hP1
end
section
local macro_rules | `(tactic| walk_at "call ref") => `(tactic| (
  (with_reducible show wpAny _ _ (PySem.call (Value.ref 170) [Value.str _ _]) _ _ _);
  (k_dflt (refine' split_ct ?X ?T ?d ?u ?x ?_)); (case x => (walk_at "my len")); walk_at "my pre";
  intro a' t1' t2' h' tk' kp' fr' ob'; walk_at "my add4"))

local macro_rules | `(tactic| walk_at "my len") => `(tactic| omega)
theorem strsAre_rev {vs : List Value} {ys : List Str} (h : StrsAre vs ys) : StrsAre vs.reverse ys.reverse := by
  induction h with
  | nil => exact .nil
  | cons y t _ ih => rw [List.reverse_cons, List.reverse_cons]; exact strsAre_snoc ih y t
theorem joinL_pre : ∀ (a b : List (List Nat)), (joinL a).length ≤ (joinL (a ++ b)).length
  | [], b => by simp [joinL]
  | [p], [] => by simp
  | [p], q :: r => by simp [joinL]
  | p :: q :: r, b => by
    have := joinL_pre (q :: r) b
    simp only [joinL, List.cons_append, List.length_append, List.length_cons] at this ⊢
    omega
theorem path_len_pre (r : Str) (a b : List Str) : (pathR r a).length ≤ (pathR r (a ++ b)).length := by
  rw [← C_len, ← C_len, C_path, C_path, List.map_append]
  have := joinL_pre (a.map C) (b.map C)
  simp only [List.length_append]; omega
theorem path_count (r : Str) (ns : List Str) : ns.length ≤ (pathR r ns).length + 1 := by
  have := join_parts_len ns
  unfold pathR
  rw [PySem.Str.length_append]
  have e : (Str.join sl ns).length = (Str.join (Str.ofString "/") ns).length := rfl
  omega
theorem parts_ct : ∀ {w : World} {dp un : Nat} {fr : Option (List Env)} {gd : Option (List Code)} {s : Shared} {Q E : Value → Shared → Prop} {r : Str} {ns : List Str} {t : Tok}
   {p loose mg mb} 
   (X : (K2 w.params).In s.heap) (T : TopRead p loose mg mb s.heap) (hdp : dp + 12 < 1000) (hu : un + 80 < 9900)
   (hr : RootOk r) (hns : NamesOk ns) (hl : (pathR r ns).length ≤ 1000)
   (hQ : ∀ a vs nn h' tk, Keeps s.heap h' → s.heap.get? a = none → h'.get? a = some (listOf (vs : List Value).toArray nn) → StrsAre vs ns → Q (.ref a) { s with heap := h', toks := tk })
   , wpAny (model PySem.Challenge.rw_il0142_02.row.prog w) (Ar dp un fr gd) (call (.ref 205) [.str (pathR r ns) t]) Q E s := by
  k_fill
  intro w dp un fr gd s Q E r ns t p loose mg mb X T hdp hu hr hns hl hQ
  refine' enter [(Str.ofString "place", .str (pathR r ns) t)] ?X ?T ?ho ?hcd ?hroom ?hbind ?hloc ?_ ?hco ?hgen ?hk ?hcell
  walk_at "my enter"
  k_steps
  unfold Stop
  rename_i PT _ _ _ _ _ _ _ _ _ _ _ _ _ _ F N
  refine while_st (σ := List Str × Tok × Tok × List Value × Nat) (fun c => [(PT, W.listOf c.2.2.2.1.toArray c.2.2.2.2)])
    (fun c => [(Str.ofString "tail", .str (splitS (pathR r c.1)).2 c.2.1), (Str.ofString "head", .str (splitS (pathR r c.1)).1 c.2.2.1), (Str.ofString "parts", .ref PT)])
    (fun c => ∃ acc, StrsAre c.2.2.2.1 acc ∧ c.1 ++ acc.reverse = ns) (fun c => c.1.length)
    (ns, _, _, [], 0) F N ⟨.tail _ (.head _), trivial⟩ ⟨rfl, rfl, rfl, trivial⟩ ⟨[], .nil, by simp⟩ ?_
  rintro ⟨ms, t1, t2, vs, nn⟩ h tk u ⟨acc, ha, he⟩ F' N'
  dsimp only [chain] at F' N' ha he ⊢
  have hal := strsAre_len ha
  have hnl := congrArg List.length he
  simp only [List.length_append, List.length_reverse] at hnl
  have hnl2 := path_count r ns
  have hms := path_len_pre r ms acc.reverse
  rw [he] at hms
  rcases lsnoc ms with rfl | ⟨ms', n, rfl⟩
  · rw [splitS_root hr] at F'
    dsimp only at F'
    k_steps

    have he : acc.reverse = ns := by simpa using he
    k_steps
    (rename News _ _ _ _ => N2)
    rw [krv_pick] at N2
    have hrv := strsAre_rev ha
    rw [he] at hrv
    exact hQ _ vs.reverse 0 _ _ (Fr.keep (by assumption)) (News.fresh N2 (.head _)) (News.get N2 (.head _)) hrv
  · have hok : NamesOk (ms' ++ [n]) := fun x hx => hns x (by rw [← he]; exact List.mem_append_left _ hx)
    rw [splitS_snoc hr hok] at F'
    dsimp only at F'
    have hms' := path_len_pre r ms' [n]
    k_steps
    refine WhlIf.yes (by have := (hok n (by simp)).ne; rw [bne_iff]; intro e; rw [e] at this; exact this (by decide +kernel)) ?_
    k_steps
    simp only [List.push_toArray] at *
    refine WEnd.intro (ms', _, _, _, _) (by assumption) (by assumption) ⟨by k_mem, trivial⟩ ⟨rfl, rfl, rfl, trivial⟩ ⟨acc ++ [n], strsAre_snoc ha _ _, ?_⟩ ?_
    · rw [← he]; simp
    · simp
end
section

theorem pick_upto (vs : List Value) (i : Nat) : slicePick vs.toArray none (some ((1 : Int) + (i : Int))) none = (vs.take (i + 1)).toArray := by
  rw [show (1 : Int) + (i : Int) = ((i + 1 : Nat) : Int) by omega, slicePick_upto']
theorem pick_upto1 (vs : List Value) (i : Nat) : slicePick vs.toArray none (some ((i : Int) + 1)) none = (vs.take (i + 1)).toArray := by
  rw [show (i : Int) + 1 = ((i + 1 : Nat) : Int) by omega, slicePick_upto']
theorem strsAre_take : ∀ {vs : List Value} {ys : List Str} (n : Nat), StrsAre vs ys → StrsAre (vs.take n) (ys.take n)
  | _, _, 0, _ => by simpa using StrsAre.nil
  | _, _, n + 1, .nil => by simpa using StrsAre.nil
  | _, _, n + 1, .cons y t h => by simpa using .cons y t (strsAre_take n h)
theorem range_small {n : Nat} (h : n ≤ 60) : Builtin.Range.small 1 ((n : Int) + 1) 1 = true := by
  have key : ∀ m : Nat, m < 61 → Builtin.Range.small 1 ((m : Int) + 1) 1 = true := by decide +kernel
  exact key n (Nat.lt_succ_of_le h)
theorem range_size (n : Nat) : Builtin.Range.rangeSize 1 ((n : Int) + 1) 1 = ((n : Nat) : Int) := by
  unfold Builtin.Range.rangeSize; simp; omega
theorem joinL_sum : ∀ ns : List Str, (ns.map (·.length)).sum + ns.length ≤ (joinL (ns.map C)).length + 1
  | [] => by simp
  | [p] => by (simp only [List.map_cons, List.map_nil, joinL, List.sum_cons, List.sum_nil, List.length_cons, List.length_nil, C_len]; omega)
  | p :: q :: r => by
    have := joinL_sum (q :: r)
    simp only [List.map_cons, joinL, List.length_append, List.length_cons, List.sum_cons, C_len] at this ⊢
    omega
theorem sum_path (ns : List Str) : (ns.map (·.length)).sum + ns.length ≤ (pathR sl ns).length := by
  have := joinL_sum ns
  rw [← C_len, C_path, C_sl, List.length_append]; simp only [List.length_cons, List.length_nil]; omega
theorem range_snoc (i : Nat) : List.range' 1 (i + 1) = List.range' 1 i ++ [i + 1] := by
  rw [List.range'_concat]; simp [Nat.add_comm]
theorem join_fits {ns : List Str} (h : (pathR sl ns).length ≤ 1000) (j : Nat) : ((ns.take j).map (·.length)).sum + (ns.take j).length * (Str.ofString "/").length ≤ 16777216 := by
  have h1 := sum_path (ns.take j)
  have h2 := path_len_pre sl (ns.take j) (ns.drop j)
  rw [List.take_append_drop] at h2
  rw [show (Str.ofString "/").length = 1 by decide +kernel]
  omega
theorem path_take {ns : List Str} {n : Nat} (h : (pathR sl ns).length ≤ n) (j : Nat) : (pathR sl (ns.take j)).length ≤ n := by
  have h2 := path_len_pre sl (ns.take j) (ns.drop j)
  rw [List.take_append_drop] at h2
  omega
section
variable {prog : Program} {w : World} {A : Around} {E : Value → Shared → Prop} {s : Shared} {D : Addr}
theorem ljoinH {vs : List Value} {ys : List Str} {x : Str} {t : Tok} {Q : Value → Shared → Prop} (hl : s.heap.IsList D vs.toArray) (hi : StrsAre vs ys)
    (hz : (ys.map (·.length)).sum + ys.length * x.length ≤ 16777216) (hq : ∀ t' k, Q (.str (Str.join x ys) t') { s with toks := k }) : wpAny (model prog w) A (call (.builtin "str.join") [.str x t, .ref D]) Q E s := by
  obtain ⟨l, rfl, hl'⟩ := strsAre_values hi
  refine SC.join (texts := ys) hl hl' ?_ (by rw [show Txt.join x ys = Str.join x ys from StrLaws.glued_eq_join _ _]; exact hq)
  unfold JoinOk Builtin.Str.tooLong
  rw [StrLaws.joinTotal, sizeLine_eq]
  simp only [Bool.not_eq_true', decide_eq_false_iff_not]
  omega
open PyProof.Rows in
theorem add_path {ns : List Str} {t u : Tok} {Q : Value → Shared → Prop} (h : (pathR sl ns).length ≤ 1000) (hq : ∀ t' tk, Q (.str (pathR sl ns) t') { s with toks := tk }) :
    wpAny (model prog w) A (binaryOp .Add (.str (Str.ofString "/") t) (.str ((Str.ofString "/").join ns) u)) Q E s := by
  refine SBL.add (fun t' tk _ => hq t' tk) ?_
  rw [sizeLine_eq]
  have e : (pathR sl ns).length = (Str.ofString "/").length + ((Str.ofString "/").join ns).length := Str.length_append _ _
  omega
end
end
section

open PyProof PyProof.Rows
theorem strsAre_split {vs : List Value} : ∀ {ys zs : List Str}, StrsAre vs (ys ++ zs) → ∃ v1 v2, vs = v1 ++ v2 ∧ StrsAre v1 ys ∧ StrsAre v2 zs
  | [], zs, h => ⟨[], vs, rfl, .nil, h⟩
  | y :: ys, zs, h => by
    cases h with
    | cons y t h =>
      obtain ⟨v1, v2, rfl, h1, h2⟩ := strsAre_split h
      exact ⟨.str y t :: v1, v2, rfl, .cons y t h1, h2⟩
theorem not_isStrOf {y : Str} : ∀ {vs : List Value} {ys : List Str}, StrsAre vs ys → y ∉ ys → ∀ v ∈ vs, PyProof.Rows.isStrOf y v = false
  | _, _, .nil, _, _, hv => absurd hv (by simp)
  | _, _, .cons z t h, hy, v, hv => by
    rcases List.mem_cons.mp hv with rfl | hv
    · have : z ≠ y := fun e => hy (by rw [e]; exact .head _)
      simp [PyProof.Rows.isStrOf, this]
    · exact not_isStrOf h (fun e => hy (.tail _ e)) v hv
section
variable {prog : Program} {w : World} {A : Around} {E : Value → Shared → Prop} {s : Shared} {D L : Addr} {g : Heap} {m : Str → Option Value} {news : List (Addr × Obj)} {u : Obj → List (Addr × Obj)}
theorem lremove {vs : List Value} {ys : List Str} {y : Str} {t : Tok} {n : Nat} {Q : Value → Shared → Prop} (F : Fr g L s.heap m) (N : News g L s.heap news) (hv : StrsAre vs ys) (hy : y ∈ ys) (U : UpdF D (listOf vs.toArray n) news u) (hz : vs.length ≤ 1000000)
    (h : ∀ ws h', StrsAre ws (ys.erase y) → Fr g L h' m → News g L h' (u (listOf ws.toArray (n + 1))) → Q .none { s with heap := h' }) : wpAny (model prog w) A (call (.builtin "list.remove") [.ref D, .str y t]) Q E s := by
  obtain ⟨as, bs, rfl, hna⟩ := List.eq_append_cons_of_mem hy
  obtain ⟨v1, v2, rfl, h1, h2⟩ := strsAre_split hv
  cases h2 with
  | @cons _ t2 v2 _ h2 =>
  have hws : StrsAre (v1 ++ v2) ((as ++ y :: bs).erase y) := by
    rw [List.erase_append_right _ hna, List.erase_cons_head]
    exact strsAre_app h1 h2
  have hU := updF_to U (listOf (v1 ++ v2).toArray (n + 1))
  have h := fun h' => h (v1 ++ v2) h' hws
  generalize hnw : u (listOf (v1 ++ v2).toArray (n + 1)) = news' at hU h
  obtain ⟨pre, post, rfl, rfl, a', b'⟩ := hU.split
  have z := N (D, listOf (v1 ++ Value.str y t2 :: v2).toArray n) (List.mem_append.mpr (.inr (.head _)))
  have hle := strsAre_len h1
  refine call_meets PySem.F.slot_list_remove ⟨_, z.1, rfl⟩ PySem.F.entry_list_remove (PySem.F.args_list_remove_2 _ _)
    (MeetsSeq.list_remove D _ n (.str y t) (PyProof.Rows.isStrOf y) (fun v hv' => eq_isStrOf y t hv v (by simpa using hv')) v1.length (by simp) (by simp [PyProof.Rows.isStrOf]) (fun i hi hlt => not_isStrOf h1 hna _ (by simp [List.getElem_append_left hlt])) (by rw [List.size_toArray, sizeLine_eq]; omega))
    ⟨z.1, h _ (F.change (Heap.SameBut.update ..) z.2.1 z.2.2) (ki_turn _ N a' b' ?_ ?_)⟩
  · apply Array.toList_inj.mp
    simp [Array.toList_eraseIdxIfInBounds, List.eraseIdx_append_of_length_le]
  · rw [if_neg (by simp)]
end
end
section

theorem path_eq {p q : Path} (hp : NamesOk p) (hq : NamesOk q) : (pathR sl p == pathR sl q) = decide (p = q) := by
  by_cases h : p = q
  · rw [h]; simp
  · rw [decide_eq_false h, beq_eq_false_iff_ne]
    exact fun e => h (path_inj (.inl rfl) hp hq e)
theorem any_path {kept : List Path} {q : Path} (hk : ∀ r ∈ kept, NamesOk r) (hq : NamesOk q) : ((kept.map (pathR sl)).any fun x => x == pathR sl q) = decide (q ∈ kept) := by
  induction kept with
  | nil => simp
  | cons r l ih =>
    rw [List.map_cons, List.any_cons, ih (fun a ha => hk a (.tail _ ha)), path_eq (hk r (.head _)) hq]
    by_cases h : r = q
    · subst h; simp
    · have : ¬ q = r := fun e => h e.symm
      simp [h, this]
theorem erase_path {kept : List Path} {q : Path} (hk : ∀ r ∈ kept, NamesOk r) (hq : NamesOk q) : (kept.map (pathR sl)).erase (pathR sl q) = (kept.erase q).map (pathR sl) := by
  induction kept with
  | nil => simp
  | cons r l ih =>
    have ih := ih (fun a ha => hk a (.tail _ ha))
    by_cases h : r = q
    · subst h; simp
    · have h1 : ¬ (pathR sl r == pathR sl q) = true := by rw [path_eq (hk r (.head _)) hq]; simp [h]
      have h2 : ¬ (r == q) = true := by simp [h]
      rw [List.map_cons, List.erase_cons_tail h1, List.erase_cons_tail h2, List.map_cons, ih]
theorem erase_all {kept : List Path} (hn : kept.Nodup) : ∀ rows : List Path, rows.foldl (fun l q => l.erase q) kept = kept.filter fun q => decide (q ∉ rows) := by
  intro rows
  induction rows generalizing kept with
  | nil => simp only [List.foldl_nil, List.not_mem_nil, not_false_eq_true, decide_true]; exact (List.filter_eq_self.mpr fun _ _ => rfl).symm
  | cons r l ih =>
    rw [List.foldl_cons, ih (hn.erase r), hn.erase_eq_filter, List.filter_filter]
    congr 1
    funext q
    by_cases h : q = r <;> simp [h]
theorem rows_iff {D : Nat} {kept : List Path} {ns q : Path} (hc : ∀ r ∈ kept, ∀ k, 0 < k → k ≤ r.length → r.take k ∈ kept) (hD : ∀ r ∈ kept, r.length < ns.length + D) (hns : ns ∈ kept) :
    q ∈ ns :: belowS D kept ns ↔ q ∈ kept ∧ ns <+: q := by
  constructor
  · intro h
    rcases List.mem_cons.mp h with rfl | h
    · exact ⟨hns, List.prefix_refl _⟩
    · obtain ⟨a, b, _⟩ := below_mem D kept ns q h; exact ⟨a, b⟩
  · rintro ⟨h, hp⟩
    have hl := hp.length_le
    rcases Nat.lt_or_eq_of_le hl with h2 | h2
    · exact .tail _ (below_all D kept ns q hc h hp h2 (by have := hD q h; omega))
    · rw [← hp.eq_of_length h2]; exact .head _
theorem due_cut {D : Nat} {kept : List Path} {ns : Path} (hc : ∀ r ∈ kept, ∀ k, 0 < k → k ≤ r.length → r.take k ∈ kept) (hD : ∀ r ∈ kept, r.length < ns.length + D) (hns : ns ∈ kept) (hne : ns ≠ []) {l : List Path} (hn : l.Nodup) (hl : ∀ q ∈ l, q = [] ∨ q ∈ kept) :
    (ns :: belowS D kept ns).foldl (fun l q => l.erase q) l = l.filter (notUnder ns) := by
  rw [erase_all hn]
  refine List.filter_congr fun q hq => ?_
  have h := rows_iff (q := q) hc hD hns
  unfold notUnder
  by_cases hp : ns <+: q
  · have hk : q ∈ kept := by
      rcases hl q hq with rfl | e
      · exact absurd (List.prefix_nil.mp hp) hne
      · exact e
    simp [h.mpr ⟨hk, hp⟩, hp]
  · have : q ∉ ns :: belowS D kept ns := fun e => hp (h.mp e).2
    simp [this, hp]
theorem goS_stuck {icy kept : List Path} {ns : List Str} (i : Nat) (h : (goS icy kept (ns.take i)).2.2 = true) : (goS icy kept ns).1 = (goS icy kept (ns.take i)).1 ∧ (goS icy kept ns).2.2 = true := by
  have key : ∀ (l : List Str) st, st.2.2 = true → (l.foldl (goStep icy) st).1 = st.1 ∧ (l.foldl (goStep icy) st).2.2 = true := by
    intro l
    induction l with
    | nil => intro st h; exact ⟨rfl, h⟩
    | cons a r ih =>
      intro st h
      have e : goStep icy st a = (st.1, st.2.1 ++ [a], true) := by unfold goStep; rw [if_pos h]
      rw [List.foldl_cons, e]
      exact ih _ rfl
  have e : goS icy kept ns = (ns.drop i).foldl (goStep icy) (goS icy kept (ns.take i)) := by
    conv => lhs; rw [← List.take_append_drop i ns]
    unfold goS; rw [List.foldl_append]
  rw [e]; exact key _ _ h
/-- what a row of paths kept by _law_due is like -/
structure KeptOk (kept : List Path) : Prop where
  ok : ∀ q ∈ kept, q ≠ [] ∧ NamesOk q ∧ (pathR sl q).length ≤ 1000
  clo : ∀ r ∈ kept, ∀ k, 0 < k → k ≤ r.length → r.take k ∈ kept
  nd : kept.Nodup
theorem goStep_ok {icy : List Path} {st : List Path × Path × Bool} {n : Str} (h : KeptOk st.1) (hp : st.2.1 = [] ∨ st.2.1 ∈ st.1 ∨ st.2.2 = true) (hn : NamesOk (st.2.1 ++ [n])) (hl : (pathR sl (st.2.1 ++ [n])).length ≤ 1000) :
    KeptOk (goStep icy st n).1 ∧ ((goStep icy st n).2.1 ∈ (goStep icy st n).1 ∨ (goStep icy st n).2.2 = true) ∧ (∀ q ∈ st.1, q ∈ (goStep icy st n).1) ∧ (goStep icy st n).1.length ≤ st.1.length + 1 := by
  unfold goStep
  split
  · rename_i e; exact ⟨h, .inr rfl, fun _ q => q, Nat.le_succ _⟩
  · rename_i e
    split
    · rename_i e2; exact ⟨h, .inl e2, fun _ q => q, Nat.le_succ _⟩
    · rename_i e2
      split
      · exact ⟨h, .inr rfl, fun _ q => q, Nat.le_succ _⟩
      · refine ⟨⟨?_, ?_, ?_⟩, .inl (by simp), fun q hq => List.mem_append_left _ hq, by simp⟩
        · intro q hq
          rcases List.mem_append.mp hq with hq | hq
          · exact h.ok q hq
          · rw [List.mem_singleton.mp hq]; exact ⟨by simp, hn, hl⟩
        · intro r hr k h0 hk
          rcases List.mem_append.mp hr with hr | hr
          · exact List.mem_append_left _ (h.clo r hr k h0 hk)
          · rw [List.mem_singleton.mp hr] at hk ⊢
            rw [List.length_append, List.length_singleton] at hk
            by_cases hk2 : k ≤ st.2.1.length
            · rw [List.take_append_of_le_length hk2]
              rcases hp with hp | hp | hp
              · rw [hp] at hk2; simp at hk2; omega
              · exact List.mem_append_left _ (h.clo _ hp k h0 hk2)
              · exact absurd hp e
            · rw [List.take_of_length_le (by simp; omega)]; simp
        · rw [List.nodup_append]
          refine ⟨h.nd, by simp, ?_⟩
          intro a ha b hb
          rw [List.mem_singleton.mp hb]; exact fun e3 => e2 (e3 ▸ ha)
theorem goS_ok {icy kept : List Path} {ns : List Str} (h : KeptOk kept) (hn : NamesOk ns) (hl : (pathR sl ns).length ≤ 1000) : ∀ i, i ≤ ns.length →
    KeptOk (goS icy kept (ns.take i)).1 ∧ (ns.take i = [] ∨ ns.take i ∈ (goS icy kept (ns.take i)).1 ∨ (goS icy kept (ns.take i)).2.2 = true) ∧ (∀ q ∈ kept, q ∈ (goS icy kept (ns.take i)).1) ∧ (goS icy kept (ns.take i)).1.length ≤ kept.length + i
  | 0, _ => ⟨by rw [List.take_zero]; exact h, .inl rfl, fun _ q => by rw [List.take_zero]; exact q, by rw [List.take_zero]; exact Nat.le_refl _⟩
  | i + 1, hi => by
    obtain ⟨a, b, c, d⟩ := goS_ok (icy := icy) h hn hl i (by omega)
    have hlt : i < ns.length := hi
    have e := goS_take icy kept ns (i := i) (n := ns[i]) (List.getElem?_eq_getElem hlt)
    have hp := goS_p icy kept (ns.take i)
    have ht : ns.take (i + 1) = (goS icy kept (ns.take i)).2.1 ++ [ns[i]] := by rw [hp, List.take_add_one, List.getElem?_eq_getElem hlt]; rfl
    have hp2 := goS_p icy kept (ns.take (i + 1))
    obtain ⟨a2, b2, c2, d2⟩ := goStep_ok (icy := icy) (n := ns[i]) a (by rw [hp]; exact b) (by rw [← ht]; exact fun m hm => hn m (List.mem_of_mem_take hm)) (by rw [← ht]; exact path_take hl _)
    rw [← e] at a2 b2 c2 d2
    rw [hp2] at b2
    exact ⟨a2, .inr b2, fun q hq => c2 q (c q hq), by omega⟩
theorem goS_next {icy kept : List Path} {ns : List Str} {i : Nat} (hi : i < ns.length) (hf : (goS icy kept (ns.take i)).2.2 = false) :
    goS icy kept (ns.take (i + 1)) = if ns.take (i + 1) ∈ (goS icy kept (ns.take i)).1 then ((goS icy kept (ns.take i)).1, ns.take (i + 1), false)
      else if ns.take i ∈ icy then ((goS icy kept (ns.take i)).1, ns.take (i + 1), true) else ((goS icy kept (ns.take i)).1 ++ [ns.take (i + 1)], ns.take (i + 1), false) := by
  have hst := goS_take icy kept ns (i := i) (n := ns[i]) (List.getElem?_eq_getElem hi)
  have hp := goS_p icy kept (ns.take i)
  have ht : ns.take i ++ [ns[i]] = ns.take (i + 1) := by rw [List.take_add_one, List.getElem?_eq_getElem hi]; rfl
  rw [hst]
  unfold goStep
  rw [hp, ht, hf]
  rfl
theorem fr_under {g h : Heap} {L : Addr} {m : Str → Option Value} {news l : List (Addr × Obj)} (F : Fr g L h m) (N : News g L h news) (hs : ∀ p ∈ l, p ∈ news) : Under g h l :=
  ⟨F.keep, Nat.le_trans F.above (Nat.le_of_lt F.ns.lt), fun p hp => ⟨(N p (hs p hp)).1, (N p (hs p hp)).2.2⟩⟩
theorem fr_under1 {g h : Heap} {L ka fa : Addr} {o1 o2 : Obj} {m : Str → Option Value} {r : Addr × Obj} {rest : List (Addr × Obj)} (F : Fr g L h m) (N : News g L h (r :: rest)) (h1 : (ka, o1) ∈ r :: rest) (h2 : (fa, o2) ∈ r :: rest) : Under g h [(ka, o1), (fa, o2), r] :=
  fr_under F N fun p hp => by
    rcases List.mem_cons.mp hp with rfl | hp
    · exact h1
    · rcases List.mem_cons.mp hp with rfl | hp
      · exact h2
      · rw [List.mem_singleton.mp hp]; exact .head _
theorem datAll_strs {news : List (Addr × Obj)} : ∀ (l : List Path) {us : List Value}, StrsAre us (l.map (pathR sl)) → DatAll news us (l.map fun q => .str (pathR sl q)) := by
  intro l
  induction l with
  | nil => intro us h; cases h; exact .nil
  | cons q l ih =>
    intro us h
    rw [List.map_cons] at h
    cases h with
    | cons y t h => exact .cons (.str _ _) (ih h)
theorem due_row {D : Nat} {kept l : List Path} {ns q : Path} {i : Nat} (hn : l.Nodup) (hrn : (ns :: belowS D kept ns).Nodup) (hq : (ns :: belowS D kept ns)[i]? = some q) :
    q ∈ ((ns :: belowS D kept ns).take i).foldl (fun l q => l.erase q) l ↔ q ∈ l := by
  rw [erase_all hn, List.mem_filter, decide_eq_true_eq]
  refine ⟨fun h => h.1, fun h => ⟨h, fun hm => ?_⟩⟩
  obtain ⟨j, hj, e⟩ := List.mem_take_iff_getElem.mp hm
  obtain ⟨hi, e2⟩ := List.getElem?_eq_some_iff.mp hq
  have hj2 : j < (ns :: belowS D kept ns).length := by omega
  have := (List.getElem?_inj hj2 hrn (j := i)).mp (by rw [List.getElem?_eq_getElem hj2, List.getElem?_eq_getElem hi, e, e2] : (ns :: belowS D kept ns)[j]? = (ns :: belowS D kept ns)[i]?)
  omega
theorem rows_nodup {D : Nat} {kept : List Path} {ns : Path} (hn : kept.Nodup) : (ns :: belowS D kept ns).Nodup :=
  List.nodup_cons.mpr ⟨fun h => by have := (below_mem D kept ns ns h).2.2; omega, below_nodup D kept ns hn⟩
theorem take_range (ns : Path) {i : Nat} {v : Value} {vs : List Value} (hv : StrsAre vs ((List.range' 1 ns.length).map fun j => pathR sl (ns.take j))) (h : vs[i]? = some v) : i < ns.length ∧ ∃ t, v = .str (pathR sl (ns.take (i + 1))) t := by
  obtain ⟨y, t, rfl, hy⟩ := strsAre_get hv h
  rw [List.getElem?_map] at hy
  obtain ⟨j, hj, rfl⟩ := Option.map_eq_some_iff.mp hy
  have hi : i < ns.length := by have := (List.getElem?_eq_some_iff.mp hj).1; simpa using this
  rw [List.getElem?_range' (by simpa using hi)] at hj
  cases hj
  exact ⟨hi, t, by rw [show 1 + 1 * i = i + 1 by omega]⟩
theorem names_take {ns : List Str} (h : NamesOk ns) (j : Nat) : NamesOk (ns.take j) := fun m hm => h m (List.mem_of_mem_take hm)
end
section

local macro_rules | `(tactic| walk_at "CompSrcT") => `(tactic| (refine stop ?_))
theorem last_of_rfind {x : Str} {k : Nat} (h : Txt.rfind x sl = (k : Int)) : Builtin.Str.lastOccurrence x sl 0 x.length = some k := by
  unfold Txt.rfind at h
  cases e : Builtin.Str.lastOccurrence x sl 0 x.length with
  | none => rw [e] at h; exact absurd h (by show ¬ (-1 : Int) = k; omega)
  | some i => rw [e] at h; have : i = k := by (have h : (i : Int) = k := h); omega
              rw [this]
theorem rindex_path {q : Path} {n : Str} (h : NamesOk (q ++ [n])) : ∃ k : Nat, Builtin.Str.lastOccurrence (pathR sl (q ++ [n])) sl 0 (pathR sl (q ++ [n])).length = some k ∧
    Txt.slice (pathR sl (q ++ [n])) none (some (k : Int)) = (if q = [] then Str.empty else pathR sl q) ∧ k ≤ (pathR sl (q ++ [n])).length := by
  have okn := h n (by simp)
  by_cases hq : q = []
  · subst hq
    have hx : C (pathR sl ([] ++ [n])) = [] ++ 47 :: C n := by rw [C_path, C_sl]; simp [joinL]
    refine ⟨0, last_of_rfind (rfind_at hx okn.free), ?_, Nat.zero_le _⟩
    rw [if_pos rfl]
    exact C_inj (by rw [C_to _ 0 (by omega), C_empty]; simp)
  · have hx : C (pathR sl (q ++ [n])) = C (pathR sl q) ++ 47 :: C n := by
      rw [C_path, C_path, List.map_append, List.map_singleton, joinL_snoc _ _ (by simpa using hq)]; simp
    have hl : (C (pathR sl q)).length ≤ (pathR sl (q ++ [n])).length := by rw [← C_len, hx]; simp
    refine ⟨(C (pathR sl q)).length, last_of_rfind (rfind_at hx okn.free), ?_, hl⟩
    rw [if_neg hq]
    refine C_inj ?_
    rw [C_to _ _ hl, hx]; simp
theorem rindex_at {prog : Program} {w : World} {A : Around} {E : Value → Shared → Prop} {s : Shared} {x y : Str} {t u : Tok} {i : Nat} {Q : Value → Shared → Prop} (h : Builtin.Str.lastOccurrence x y 0 x.length = some i) (hq : Q (.int i s.toks) { s with toks := s.toks + 1 }) :
    wpAny (model prog w) A (call (.builtin "str.rindex") [.str x t, .str y u]) Q E s :=
  call_gives F.slot_str_rindex (typeIs_str _ _ _) F.entry_str_rindex (F.args_str_rindex_2 _ _) (gives_str_rindex x y t u i h) hq
local macro_rules | `(tactic| walk_at "call builtin:str.rindex") => `(tactic| (
  (with_reducible show wpAny _ _ (PySem.call (Value.builtin "str.rindex") [Value.str _ _, Value.str _ _]) _ _ _); (refine rindex_at (by assumption) ?_)))
local macro_rules | `(tactic| walk_at "truthy str") => `(tactic| (
  (with_reducible show wpAny _ _ (PySem.truthy (Value.str _ _)) _ _ _); refine stop ?_))
theorem in_ct : ∀ {w : World} {dp un : Nat} {fr : Option (List Env)} {gd : Option (List Code)} {s : Shared} {Q E : Value → Shared → Prop} {kept : List Path} {ka : Addr} {vs : List Value} {nn : Nat} {pl : Path} {t : Tok}
   {p loose mg mb} 
   (X : (K2 w.params).In s.heap) (T : TopRead p loose mg mb s.heap) (hdp : dp + 8 < 1000) (hu : un + 60 < 9900)
   (hk : ∀ q ∈ kept, q ≠ [] ∧ NamesOk q ∧ (pathR sl q).length ≤ 1000) (hpl : NamesOk pl) (hlen : kept.length ≤ 960) (hka : s.heap.get? ka = some (listOf vs.toArray nn)) (hv : StrsAre vs (kept.map (pathR sl)))
   (hQ : ∀ a us h' tk, Keeps s.heap h' → s.heap.get? a = none → h'.get? a = some (LCg.lst us) → StrsAre us ((kidsAt kept pl).map (pathR sl)) → Q (.ref a) { s with heap := h', toks := tk })
   , wpAny (model PySem.Challenge.rw_il0142_02.row.prog w) (Ar dp un fr gd) (call (.ref 238) [.ref ka, .str (pathR sl pl) t]) Q E s := by
  k_fill
  intro w dp un fr gd s Q E kept ka vs nn pl t p loose mg mb X T hdp hu hk hpl hlen hka hv hQ
  refine' enterC [(Str.ofString "kept", .ref ka), (Str.ofString "place", .str (pathR sl pl) t)] (Str.ofString "place") (.str (pathR sl pl) t) ?X ?T ?U ?ho ?hcd ?hroom ?hbind ?hcs ?hkind ?hval ?_ ?hco ?hgen ?hk
  (case X => assumption); (case T => assumption); (case U => exact ⟨fun _ _ e => e, Nat.le_refl _, fun _ hp => (List.not_mem_nil hp).elim⟩); (case ho => k_is); (case hcd => k_is); (case hroom => first | exact roomE (by assumption) | (dsimp only [Ar, recursionLimit]; omega))
  (case hbind => exact rfl); (case hcs => exact fun _ => rfl); (case hkind => (repeat (first | exact List.forall_mem_nil _ | refine List.forall_mem_cons.mpr ⟨by first | exact .inl rfl | exact .inr ⟨rfl, rfl⟩, ?_⟩))); (case hval => exact fun _ => rfl); (case hco => exact rfl); (case hgen => exact rfl); (case hk => exact rfl)
  intro L' c' h₁' tk' o' F' N' hod' k₁' hc'; (try dsimp only); (try k_fold)
  k_steps
  unfold Stop
  rename Fr _ _ _ _ => F
  rename News _ _ _ _ => N
  have hil : s.heap.IsList ka vs.toArray := ⟨_, hka, rfl, nn, rfl⟩
  refine LCt.CompSrcT.base rfl F N hil (by rw [List.size_toArray, strsAre_len hv, List.length_map, sizeLine_eq]; omega) (fun g => ?_)
  refine compT_inv (J := fun i ys nw => nw = [_] ∧ StrsAre ys (((kept.take i).filter (isKid pl)).map (pathR sl))) ⟨rfl, .nil⟩ ?_ ?_
  · rintro ys nw ⟨rfl, hJ⟩
    rw [List.size_toArray, strsAre_len hv, List.length_map, List.take_length] at hJ
    k_steps
    (rename News _ _ _ _ => N2)
    exact hQ _ ys _ _ (Fr.keep (by assumption)) (News.fresh N2 (.head _)) (News.get N2 (.head _)) hJ
  · intro i v I oI C oC D m₂ ys nw h tk E' hi hv' hJ hoC hmx F N off ne
    obtain ⟨rfl, hJ⟩ := hJ
    simp only [LCg.Off3, and_true] at off
    obtain ⟨ne1, ne2, ne3⟩ := ne
    rw [List.getElem?_toArray] at hv'
    obtain ⟨y, ty, rfl, hy⟩ := strsAre_get hv hv'
    rw [List.getElem?_map] at hy
    obtain ⟨q, hq, rfl⟩ := Option.map_eq_some_iff.mp hy
    obtain ⟨hq1, hq2, hq3⟩ := hk q (List.mem_of_getElem? hq)
    obtain ⟨q0, n, rfl⟩ : ∃ q0 n, q = q0 ++ [n] := by
      rcases lsnoc q with e | ⟨a, b, e⟩
      · exact absurd e hq1
      · exact ⟨a, b, e⟩
    obtain ⟨k, hk1, hk2, hk3⟩ := rindex_path hq2
    have hPL : (Str.ofString "/" == pathR sl pl) = decide (pl = []) := by
      have e : (Str.ofString "/") = pathR sl [] := C_inj (by rw [C_path]; simp [joinL])
      rw [e]
      by_cases h : pl = []
      · rw [h]; simp
      · rw [decide_eq_false h, beq_eq_false_iff_ne]
        exact fun e2 => h (path_inj (.inl rfl) (fun _ hn => absurd hn (by simp)) hpl e2).symm
    have hPQ : q0 ≠ [] → (pathR sl q0 == pathR sl pl) = decide (q0 = pl) := fun _ => by
      by_cases h : q0 = pl
      · rw [h]; simp
      · rw [decide_eq_false h, beq_eq_false_iff_ne]
        exact fun e2 => h (path_inj (.inl rfl) (fun m hm => hq2 m (by simp [hm])) hpl e2)
    have hkid : isKid pl (q0 ++ [n]) = decide (q0 = pl) := by
      by_cases h : q0 = pl
      · rw [h, decide_eq_true rfl]; exact isKid_iff.mpr ⟨n, rfl⟩
      · rw [decide_eq_false h, Bool.eq_false_iff, ne_eq, isKid_iff]
        rintro ⟨m, e⟩; exact h (List.append_inj' e rfl).1
    have hfil : (kept.take (i + 1)).filter (isKid pl) = (kept.take i).filter (isKid pl) ++ (if q0 = pl then [q0 ++ [n]] else []) := by
      rw [List.take_add_one, hq, Option.toList_some, List.filter_append]
      congr 1
      by_cases h : q0 = pl
      · rw [if_pos h, List.filter_cons, if_pos (by rw [hkid, decide_eq_true h])]; rfl
      · rw [if_neg h, List.filter_cons, if_neg (by rw [hkid, decide_eq_false h]; simp)]; rfl
    have hZl : q0 ≠ [] → (pathR sl q0).length ≠ 0 ∧ (pathR sl q0).length ≤ 1000 := fun _ => ⟨path_len0 (.inl rfl) q0, Nat.le_trans (path_len_pre sl q0 [n]) hq3⟩
    clear hv hQ hk hka
    generalize hX : pathR sl (q0 ++ [n]) = X at hk1 hk2 hk3 hq3 F N hmx
    k_steps
    unfold Stop
    rw [hk2]
    by_cases hq0 : q0 = []
    · rw [if_pos hq0]
      refine P.truthy_str (by decide +kernel) ?_
      rw [if_neg (by decide +kernel)]
      k_steps
      rw [hPL]
      by_cases h : pl = []
      · rw [decide_eq_true h]
        refine WhlIf.yes rfl ?_
        k_steps
        unfold Stop
        refine ⟨rfl, ?_⟩
        rw [hfil, if_pos (by rw [hq0, h]), List.map_append, List.map_singleton, hX]
        exact strsAre_snoc hJ _ _
      · rw [decide_eq_false h]
        refine WhlIf.no rfl ?_
        k_steps
        unfold Stop
        refine ⟨rfl, ?_⟩
        rw [hfil, if_neg (by rw [hq0]; exact fun e => h e.symm), List.append_nil]
        exact hJ
    · rw [if_neg hq0]
      obtain ⟨hz1, hz2⟩ := hZl hq0
      generalize hZ : pathR sl q0 = Z at hz1 hz2 hPQ
      refine P.truthy_str (by omega) ?_
      rw [if_pos (by simpa using hz1)]
      k_steps
      rw [hPQ hq0]
      by_cases h : q0 = pl
      · rw [decide_eq_true h]
        refine WhlIf.yes rfl ?_
        k_steps
        unfold Stop
        refine ⟨rfl, ?_⟩
        rw [hfil, if_pos h, List.map_append, List.map_singleton, hX]
        exact strsAre_snoc hJ _ _
      · rw [decide_eq_false h]
        refine WhlIf.no rfl ?_
        k_steps
        unfold Stop
        refine ⟨rfl, ?_⟩
        rw [hfil, if_neg h, List.append_nil]
        exact hJ
end
section
local macro_rules | `(tactic| walk_at "call ref") => `(tactic| (
  (with_reducible show wpAny _ _ (PySem.call (Value.ref 238) [Value.ref _, Value.str _ _]) _ _ _);
  (k_dflt (refine' in_ct ?X ?T ?d ?u ?k ?pl ?len ?ka ?hv ?_)); (case k => assumption); (case pl => assumption); (case len => assumption); (case ka => exact Fr.keep (by assumption) _ _ (by assumption)); (case hv => assumption); walk_at "my pre";
  intro a' us' h' tk' kp' fr' ob' hu'; walk_at "my add1"))
local macro_rules | `(tactic| walk_at "call builtin:list.extend") => `(tactic| (
  (with_reducible show wpAny _ _ (PySem.call (Value.builtin "list.extend") [Value.ref _, Value.ref _]) _ _ _);
  (refine' lextend ?F ?N ?b ?U ?z ?_); (case F => assumption); (case N => assumption); (case b => k_mem); (case U => k_updF); (case z => walk_at "my esize"); intro h' n' F' N'; (try dsimp only at N'); (try k_sweep)))

local macro_rules | `(tactic| walk_at "my esize") => `(tactic| ((try simp only [List.length_append, List.length_cons, List.length_nil]); omega))
noncomputable def BelowOk (d : Nat) : Prop := ∀ {w : World} {dp un : Nat} {fr : Option (List Env)} {gd : Option (List Code)} {s : Shared} {Q E : Value → Shared → Prop} {kept : List Path} {ka : Addr} {vs : List Value} {nn : Nat} {pl : Path} {t : Tok}
   {p loose mg mb} 
   (X : (K2 w.params).In s.heap) (T : TopRead p loose mg mb s.heap) (hdp : dp + d + 12 < 1000) (hu : un + 8 * d + 80 < 9900)
   (hk : ∀ q ∈ kept, q ≠ [] ∧ NamesOk q ∧ (pathR sl q).length ≤ 1000) (hnd : kept.Nodup) (hpl : NamesOk pl) (hlen : kept.length ≤ 960) (hd : ∀ q ∈ kept, q.length < pl.length + d) (hka : s.heap.get? ka = some (listOf vs.toArray nn)) (hv : StrsAre vs (kept.map (pathR sl)))
   (hQ : ∀ a us un h' tk, Keeps s.heap h' → s.heap.get? a = none → h'.get? a = some (listOf (us : List Value).toArray un) → StrsAre us ((belowS d kept pl).map (pathR sl)) → Q (.ref a) { s with heap := h', toks := tk })
   , wpAny (model PySem.Challenge.rw_il0142_02.row.prog w) (Ar dp un fr gd) (call (.ref 245) [.ref ka, .str (pathR sl pl) t]) Q E s
theorem BelowOk.use {d : Nat} (H : BelowOk d) : ∀ {w : World} {dp un : Nat} {fr : Option (List Env)} {gd : Option (List Code)} {s : Shared} {Q E : Value → Shared → Prop} {kept : List Path} {ka : Addr} {vs : List Value} {nn : Nat} {pl : Path} {t : Tok}
   {p loose mg mb} 
   (X : (K2 w.params).In s.heap) (T : TopRead p loose mg mb s.heap) (hdp : dp + d + 12 < 1000) (hu : un + 8 * d + 80 < 9900)
   (hk : ∀ q ∈ kept, q ≠ [] ∧ NamesOk q ∧ (pathR sl q).length ≤ 1000) (hnd : kept.Nodup) (hpl : NamesOk pl) (hlen : kept.length ≤ 960) (hd : ∀ q ∈ kept, q.length < pl.length + d) (hka : s.heap.get? ka = some (listOf vs.toArray nn)) (hv : StrsAre vs (kept.map (pathR sl)))
   (hQ : ∀ a us un h' tk, Keeps s.heap h' → s.heap.get? a = none → h'.get? a = some (listOf (us : List Value).toArray un) → StrsAre us ((belowS d kept pl).map (pathR sl)) → Q (.ref a) { s with heap := h', toks := tk })
   , wpAny (model PySem.Challenge.rw_il0142_02.row.prog w) (Ar dp un fr gd) (call (.ref 245) [.ref ka, .str (pathR sl pl) t]) Q E s := H
local macro_rules | `(tactic| walk_at "call ref") => `(tactic| (
  (with_reducible show wpAny _ _ (PySem.call (Value.ref 245) [Value.ref _, Value.str _ _]) _ _ _);
  (k_dflt (refine' BelowOk.use ?H ?X ?T ?d ?u ?k ?nd ?pl ?len ?hd ?ka ?hv ?_)); (case H => assumption); (case k => assumption); (case nd => assumption); (case pl => assumption); (case len => assumption); (case hd => assumption); (case ka => exact Fr.keep (by assumption) _ _ (by assumption)); (case hv => assumption); walk_at "my pre";
  intro a' us' un' h' tk' kp' fr' ob' hu'; walk_at "my add1"))
theorem below_ct (d : Nat) : BelowOk d := by
  induction d using Nat.strongRecOn with
  | _ d ih =>
    unfold BelowOk
    k_fill
    intro w dp un fr gd s Q E kept ka vs nn pl t p loose mg mb X T hdp hu hk hnd hpl hlen hd hka hv hQ
    have hkid : ∀ q ∈ kidsAt kept pl, 0 < d ∧ q ∈ kept ∧ q.length = pl.length + 1 := fun q hq => by
      obtain ⟨h1, n, e⟩ := kids_mem.mp hq
      have := hd q h1
      rw [e] at this ⊢
      simp at this
      exact ⟨by omega, by rw [← e]; exact h1, by simp⟩
    have hbe : belowS d kept pl = (kidsAt kept pl).flatMap fun q => q :: belowS (d - 1) kept q := by
      cases d with
      | zero =>
        have : kidsAt kept pl = [] := by
          cases e : kidsAt kept pl with
          | nil => rfl
          | cons q r => exact absurd (hkid q (by rw [e]; exact .head _)).1 (by omega)
        rw [this]; rfl
      | succ d => rfl
    have hbl := below_len d pl hnd
    rw [hbe] at hbl hQ
    clear hbe
    refine' enter [(Str.ofString "kept", .ref ka), (Str.ofString "place", .str (pathR sl pl) t)] ?X ?T ?ho ?hcd ?hroom ?hbind ?hloc ?_ ?hco ?hgen ?hk ?hcell
    walk_at "my enter"
    k_steps
    unfold Stop
    rename_i RW _ _ _ KI us _ _ _ hus F hne0 N _
    refine for_list (σ := List Value × Nat) (fun c => [(KI, LCg.lst us), (RW, W.listOf c.1.toArray c.2)]) (fun c => [(Str.ofString "rows", .ref RW), (Str.ofString "kept", .ref ka)])
      (fun i c => StrsAre c.1 ((((kidsAt kept pl).take i).flatMap fun q => q :: belowS (d - 1) kept q).map (pathR sl))) ([], 0) rfl (.inl fun _ => .head _) F N ⟨.head _, .tail _ (.head _), trivial⟩ ⟨by simp, by simp, trivial⟩ ⟨rfl, rfl, trivial⟩ .nil ?_ ?_
    · intro i v c h tk I it u hv' hP F' N' hcl hne
      obtain ⟨ys, yn⟩ := c
      obtain ⟨y, ty, rfl, hy⟩ := strsAre_get hus hv'
      rw [List.getElem?_map] at hy
      obtain ⟨q, hq, rfl⟩ := Option.map_eq_some_iff.mp hy
      obtain ⟨hd0, hqk, hql⟩ := hkid q (List.mem_of_getElem? hq)
      obtain ⟨hq1, hq2, hq3⟩ := hk q hqk
      dsimp only [chain] at F' N' hP
      simp only [AllNe, and_true] at hne
      have ihq : BelowOk (d - 1) := ih (d - 1) (by omega)
      have hcut : (((kidsAt kept pl).take (i + 1)).flatMap fun q => q :: belowS (d - 1) kept q) = (((kidsAt kept pl).take i).flatMap fun q => q :: belowS (d - 1) kept q) ++ (q :: belowS (d - 1) kept q) := by
        rw [List.take_add_one, hq, Option.toList_some, List.flatMap_append]; simp
      have hyl := strsAre_len hP
      rw [List.length_map] at hyl
      have hle : ((((kidsAt kept pl).take (i + 1)).flatMap fun q => q :: belowS (d - 1) kept q)).length ≤ 960 := by
        refine Nat.le_trans ?_ (Nat.le_trans hbl hlen)
        conv => rhs; rw [← List.take_append_drop (i + 1) (kidsAt kept pl)]
        rw [List.flatMap_append, List.length_append]; omega
      rw [hcut, List.length_append, List.length_cons] at hle
      try dsimp only at hyl
      have hdq : ∀ q' ∈ kept, q'.length < q.length + (d - 1) := fun q' hq' => by have := hd q' hq'; omega
      k_steps
      (try simp only [List.push_toArray] at *)
      refine TEnd.intro (_, _) (by assumption) (by assumption) ⟨by k_mem, by k_mem, trivial⟩ (by k_mem) ⟨by simp, by simp, trivial⟩ ⟨rfl, rfl, trivial⟩ ?_
      dsimp only
      rw [hcut, List.map_append, List.map_cons, List.append_cons (List.map _ _) (pathR sl q)]
      exact strsAre_app (strsAre_snoc hP _ _) (by assumption)
    · intro c h tk u hP F' N'
      obtain ⟨ys, yn⟩ := c
      dsimp only [chain] at F' N' hP
      rw [strsAre_len hus, List.length_map, List.take_length] at hP
      k_steps
      exact hQ _ _ _ _ _ (Fr.keep (by assumption)) (News.fresh (by assumption) (.tail _ (.head _))) (News.get (by assumption) (.tail _ (.head _))) hP
end
section
local macro_rules | `(tactic| walk_at "call ref") => `(tactic| (
  (with_reducible show wpAny _ _ (PySem.call (Value.ref 142) [Value.str _ _]) _ _ _);
  (k_dflt (refine' fspath_ct ?X ?T ?d ?u ?_)); (case X => k_in); (case T => walk_at "my top"); (case d => walk_at "my room"); (case u => walk_at "my room");
  intro h' tk' kp'; walk_at "my keep"))
local macro_rules | `(tactic| walk_at "call ref") => `(tactic| (
  (with_reducible show wpAny _ _ (PySem.call (Value.ref 156) [Value.str _ _]) _ _ _);
  (k_dflt (refine' get_sep_ct ?X ?T ?d ?u ?_)); (case X => k_in); (case T => walk_at "my top"); (case d => walk_at "my room"); (case u => walk_at "my room");
  intro t' h' tk' kp'; walk_at "my keep"))


theorem join_ct : ∀ {w : World} {dp un : Nat} {fr : Option (List Env)} {gd : Option (List Code)} {s : Shared} {Q E : Value → Shared → Prop} {x : Str} {t : Tok} {vs : List Value} {ys : List Str}
   {p loose mg mb} 
   (X : (K2 w.params).In s.heap) (T : TopRead p loose mg mb s.heap) (hdp : dp + 8 < 1000) (hu : un + 60 < 9900)
   (hys : StrsAre vs ys)
   (hx : x.length + (ys.map fun y => y.length + 1).sum ≤ 1000000)
   (hQ : ∀ t h' tk, Keeps s.heap h' → Q (.str (ys.foldl joinStep x) t) { s with heap := h', toks := tk })
   , wpAny (model PySem.Challenge.rw_il0142_02.row.prog w) (Ar dp un fr gd) (call (.ref 163) (.str x t :: vs)) Q E s := by
  k_fill
  intro w dp un fr gd s Q E x t vs ys p loose mg mb X T hdp hu hys hx hQ
  refine' enterV vs (fun v => [(Str.ofString "a", .str x t), (Str.ofString "p", v)]) ?X ?T ?ho ?hcd ?hroom ?hbind ?hsz ?hloc ?_ ?hco ?hgen ?hk ?hcell
  case X => assumption
  case T => assumption
  case ho => k_is
  case hcd => k_is
  case hroom => exact roomE (by assumption)
  case hbind => cases hys <;> rfl
  case hsz => rw [strsAre_len hys, sizeLine_eq]; have := sum_len_le ys; omega
  case hloc => exact fun _ => locs rfl
  case hco => exact rfl
  case hgen => exact rfl
  case hk => exact rfl
  case hcell => decide
  intro D L' h₁ tk F' N'
  try dsimp only
  k_fold
  k_steps
  refine for_tup (σ := Str × Tok × Tok) (fun _ => [(D, { cls := .type "tuple", data := .seq vs.toArray })]) (fun c => [(Str.ofString "path", .str c.1 c.2.1), (Str.ofString "sep", .str (Str.ofString "/") c.2.2)])
    (fun i c => c.1 = (ys.take i).foldl joinStep x) (_, _, _) rfl (.inl fun _ => .head _) (by assumption) (by assumption) ⟨.head _, trivial⟩ ⟨by simp, trivial⟩ ⟨rfl, rfl, trivial⟩ rfl ?_ ?_
  · intro i v c h tk I it u hv hP F' N' hcl hne
    obtain ⟨y, ty, rfl, hy⟩ := strsAre_get hys hv
    obtain ⟨cur, t1, t2⟩ := c
    dsimp only [chain] at F' N' hP
    have hc : cur.length + (y.length + 1) ≤ 1000000 := by
      have h1 := foldJoin_len (ys.take i) x
      have h2 := sum_take_le (ys.map fun y => y.length + 1) (i + 1)
      have h3 : ((ys.map fun y => y.length + 1).take (i + 1)).sum = ((ys.take i).map fun y => y.length + 1).sum + (y.length + 1) := by
        rw [List.take_add_one, List.getElem?_map, hy]; simp
      rw [hP]; omega
    k_steps
    all_goals (
      refine TEnd.intro (_, _, _) (by assumption) (by assumption) ⟨.tail _ (.head _), trivial⟩ (.head _) ⟨by simp, trivial⟩ ⟨rfl, rfl, trivial⟩ ?_
      dsimp only
      rw [take_foldl _ _ _ hy, ← hP]
      first
        | exact (joinStep_abs (by assumption)).symm
        | exact (joinStep_nil (by assumption)).symm
        | exact (joinStep_end (by assumption) (by assumption) (by assumption)).symm
        | exact (joinStep_mid (by assumption) (by assumption) (by assumption)).symm)
  · intro c h tk u hP F' N'
    obtain ⟨cur, t1, t2⟩ := c
    dsimp only [chain] at F' N' hP
    rw [strsAre_len hys, List.take_length] at hP
    subst hP
    k_steps
    exact hQ _ _ _ (Fr.keep (by assumption))
end
section
local macro_rules | `(tactic| walk_at "call builtin:list.extend") => `(tactic| (
  (with_reducible show wpAny _ _ (PySem.call (Value.builtin "list.extend") [Value.ref _, Value.ref _]) _ _ _);
  (refine' lextend ?F ?N ?b ?U ?z ?_); (case F => assumption); (case N => assumption); (case b => k_mem); (case U => k_updF); (case z => walk_at "my esize"); intro h' n' F' N'; (try dsimp only at N'); (try k_sweep)))

theorem join_name {p : Path} {n : Str} (h : NameOk n) (hp : NamesOk p) : joinStep (pathR sl p) n = pathR sl (p ++ [n]) := by
  have hb : (C n).head? ≠ some 47 := fun e => by
    cases hc : C n with
    | nil => exact h.ne hc
    | cons a r => rw [hc] at e; simp at e; exact h.free (by rw [hc, e]; exact .head _)
  have h0 : (pathR sl p).length ≠ 0 := path_len0 (.inl rfl) p
  have hj : joinStep (pathR sl p) n = if Txt.endswith (pathR sl p) sl = true then pathR sl p ++ n else pathR sl p ++ (sl ++ n) := by
    unfold joinStep
    rw [if_neg (by rw [show Str.ofString "/" = sl from rfl, starts_iff]; intro h; exact h.elim hb h0)]
  rw [hj]
  by_cases hp0 : p = []
  · subst hp0
    rw [if_pos ((ends_iff _).mpr (by rw [C_path, C_sl]; simp [joinL]))]
    refine C_inj ?_
    rw [C_app, C_path, C_path]; simp [joinL]
  · rw [if_neg]
    · refine C_inj ?_
      rw [C_app, C_app, C_path, C_path, C_sl, List.map_append, List.map_singleton, joinL_snoc _ _ (by simpa using hp0)]; simp
    · rw [ends_iff, C_path, C_sl, List.getLast?_append]
      have h1 := joinL_last hp hp0
      have h2 : joinL (p.map C) ≠ [] := joinL_ne (fun x hx => by obtain ⟨q, hq, rfl⟩ := List.mem_map.mp hx; exact (hp q hq).ne) (by simpa using hp0)
      cases e : (joinL (p.map C)).getLast? with
      | none => exact absurd (List.getLast?_eq_none_iff.mp e) h2
      | some c => rw [e] at h1; simpa using h1
theorem join1_ct : ∀ {w : World} {dp un : Nat} {fr : Option (List Env)} {gd : Option (List Code)} {s : Shared} {Q E : Value → Shared → Prop} {pl : Path} {n : Str} {t u : Tok}
   {p loose mg mb} 
   (X : (K2 w.params).In s.heap) (T : TopRead p loose mg mb s.heap) (hdp : dp + 8 < 1000) (hu : un + 60 < 9900)
   (hn : NamesOk (pl ++ [n])) (hx : (pathR sl (pl ++ [n])).length ≤ 1000)
   (hQ : ∀ t h' tk, Keeps s.heap h' → Q (.str (pathR sl (pl ++ [n])) t) { s with heap := h', toks := tk })
   , wpAny (model PySem.Challenge.rw_il0142_02.row.prog w) (Ar dp un fr gd) (call (.ref 163) [.str (pathR sl pl) t, .str n u]) Q E s := by
  k_fill
  intro w dp un fr gd s Q E pl n t u p loose mg mb X T hdp hu hn hx hQ
  have h1 := path_len_pre sl pl [n]
  have h2 : n.length ≤ (pathR sl (pl ++ [n])).length := by
    have e := join_name (hn n (by simp)) (fun m hm => hn m (List.mem_append_left _ hm))
    rw [← e]
    unfold joinStep
    split
    · exact Nat.le_refl _
    · split
      · rw [PySem.Str.length_append]; omega
      · rw [PySem.Str.length_append, PySem.Str.length_append]; omega
  refine join_ct X T hdp hu (.cons n u .nil) (by simp only [List.map_cons, List.map_nil, List.sum_cons, List.sum_nil]; omega) (fun t' h' tk k => ?_)
  have e : [n].foldl joinStep (pathR sl pl) = pathR sl (pl ++ [n]) := join_name (hn n (by simp)) (fun m hm => hn m (List.mem_append_left _ hm))
  rw [e]; exact hQ _ _ _ k
local macro_rules | `(tactic| walk_at "call ref") => `(tactic| (
  (with_reducible show wpAny _ _ (PySem.call (Value.ref 163) [Value.str (pathR _ _) _, Value.str _ _]) _ _ _);
  (k_dflt (refine' join1_ct ?X ?T ?d ?u ?n ?x ?_)); (case n => assumption); (case x => assumption); walk_at "my pre";
  intro t' h' tk' kp'; walk_at "my keep"))
theorem inst_own {h : Heap} {S : TS} {w : World} {pm : Value} {q : Path} (B : Bears h (S.own w pm q)) :
    ∃ bag, InstAt h (S.loc q).x (S.fold w q) 65 (some bag) ∧ (bag = bag0 ∨ ∃ tk v, bag = bagF w tk v) := by
  have hf := B _ (.head _)
  cases hz : (S.loc q).fz with
  | none =>
    have hb : ((S.loc q).dx, bag0) ∈ S.own w pm q := by unfold TS.own bagObjs; rw [hz]; exact .tail _ (.head _)
    exact ⟨_, ⟨hf, rfl, rfl, B _ hb⟩, .inl rfl⟩
  | some z =>
    have hb : ((S.loc q).dx, bagF w z.tk0 (.ref z.lam)) ∈ S.own w pm q := by unfold TS.own bagObjs; rw [hz]; exact .tail _ (.head _)
    exact ⟨_, ⟨hf, rfl, rfl, B _ hb⟩, .inr ⟨_, _, rfl⟩⟩
theorem own_items : ∀ {w : World} {S : TS} {pm : Value} {q : Path} {A : Around} {E : Value → Shared → Prop} {s : Shared} {pl : Sem Bool} {Q : Value × List Value → Shared → Prop} (X : (K2 w.params).In s.heap) (B : Bears s.heap (S.own w pm q)) (h : Q (.builtin "dict.items", [.ref (S.loc q).x]) s)
    , wpAny (model PySem.Challenge.rw_il0142_02.row.prog w) A (getMethod (.ref (S.loc q).x) "items" pl) Q E s := by
  k_fill
  intro w S pm q A E s pl Q X B h
  obtain ⟨bag, I, hb⟩ := inst_own B
  obtain ⟨hh, gg, d, tk, os⟩ := s
  exact get_method X I rfl (by k_is) (by k_is) (by k_is) ty_ditems (look_bag hb (by decide +kernel)) h
theorem own_call_items : ∀ {w : World} {S : TS} {pm : Value} {q : Path} {A : Around} {E : Value → Shared → Prop} {s : Shared} {Q : Value → Shared → Prop} (X : (K2 w.params).In s.heap) (hbig : @LT.lt Nat _ 255 (S.loc q).x) (B : Bears s.heap (S.own w pm q))
    (h : Q (.ref s.heap.objs.size) { s with heap := s.heap.push { cls := .type "dict_items", data := .fields #[.ref (S.loc q).x] } })
    , wpAny (model PySem.Challenge.rw_il0142_02.row.prog w) A (call (.builtin "dict.items") [.ref (S.loc q).x]) Q E s := by
  k_fill
  intro w S pm q A E s Q X hbig B h
  obtain ⟨bag, I, hb⟩ := inst_own B
  obtain ⟨hh, gg, d, tk, os⟩ := s
  exact fold_items X I (by k_is) (by k_is) (xs_big hbig) h

local macro_rules | `(tactic| walk_at "my esize") => `(tactic| ((try simp only [List.length_append, List.length_cons, List.length_nil]); omega))
local macro_rules | `(tactic| walk_at "exec For Tuple Call cons nil") => `(tactic| (k_here; refine stop ?_))
/-- what a call of _law_written needs of the tree: all that stands at a place and below it -/
noncomputable def SubBears (S : TS) (w : World) (pm : Value) (h : Heap) (pl : Path) : Prop := ∀ q, S.On q → pl <+: q → Bears h (S.own w pm q)
theorem SubBears.keeps {S : TS} {w : World} {pm : Value} {h h' : Heap} {pl : Path} (B : SubBears S w pm h pl) (k : Keeps h h') : SubBears S w pm h' pl := fun q h1 h2 => (B q h1 h2).keeps k
theorem SubBears.down {S : TS} {w : World} {pm : Value} {h : Heap} {pl q : Path} (B : SubBears S w pm h pl) (k : pl <+: q) : SubBears S w pm h q := fun r h1 h2 => B r h1 (k.trans h2)
noncomputable def WrittenOk (d : Nat) : Prop := ∀ {w : World} {dp un : Nat} {fr : Option (List Env)} {gd : Option (List Code)} {s : Shared} {Q E : Value → Shared → Prop} {S : TS} {pm : Value} {pl : Path} {t : Tok}
   {p loose mg mb} 
   (X : (K2 w.params).In s.heap) (T : TopRead p loose mg mb s.heap) (hdp : dp + d + 12 < 1000) (hu : un + 8 * d + 80 < 9900)
   (W : WF S) (hp : S.On pl) (B : SubBears S w pm s.heap pl) (hk : ∀ q ∈ S.kept, (pathR sl q).length ≤ 1000) (hd : ∀ q ∈ S.kept, q.length < pl.length + d)
   (hQ : ∀ a us un h' tk, Keeps s.heap h' → s.heap.get? a = none → h'.get? a = some (listOf (us : List Value).toArray un) → StrsAre us ((belowS d S.kept pl).map (pathR sl)) → Q (.ref a) { s with heap := h', toks := tk })
   , wpAny (model PySem.Challenge.rw_il0142_02.row.prog w) (Ar dp un fr gd) (call (.ref 219) [.ref (S.loc pl).x, .str (pathR sl pl) t]) Q E s
theorem WrittenOk.use {d : Nat} (H : WrittenOk d) : ∀ {w : World} {dp un : Nat} {fr : Option (List Env)} {gd : Option (List Code)} {s : Shared} {Q E : Value → Shared → Prop} {S : TS} {pm : Value} {pl : Path} {t : Tok}
   {p loose mg mb} 
   (X : (K2 w.params).In s.heap) (T : TopRead p loose mg mb s.heap) (hdp : dp + d + 12 < 1000) (hu : un + 8 * d + 80 < 9900)
   (W : WF S) (hp : S.On pl) (B : SubBears S w pm s.heap pl) (hk : ∀ q ∈ S.kept, (pathR sl q).length ≤ 1000) (hd : ∀ q ∈ S.kept, q.length < pl.length + d)
   (hQ : ∀ a us un h' tk, Keeps s.heap h' → s.heap.get? a = none → h'.get? a = some (listOf (us : List Value).toArray un) → StrsAre us ((belowS d S.kept pl).map (pathR sl)) → Q (.ref a) { s with heap := h', toks := tk })
   , wpAny (model PySem.Challenge.rw_il0142_02.row.prog w) (Ar dp un fr gd) (call (.ref 219) [.ref (S.loc pl).x, .str (pathR sl pl) t]) Q E s := H
local macro_rules | `(tactic| walk_at "call ref") => `(tactic| (
  (with_reducible show wpAny _ _ (PySem.call (Value.ref 219) [Value.ref _, Value.str _ _]) _ _ _);
  (k_dflt (refine' WrittenOk.use ?H ?X ?T ?d ?u ?W ?p ?B ?k ?hd ?_)); (case H => assumption); (case W => assumption); (case p => assumption); (case B => exact SubBears.keeps (by assumption) (Fr.keep (by assumption))); (case k => assumption); (case hd => assumption); walk_at "my pre";
  intro a' us' un' h' tk' kp' fr' ob' hu'; walk_at "my add1"))
theorem written_ct (d : Nat) : WrittenOk d := by
  induction d using Nat.strongRecOn with
  | _ d ih =>
    unfold WrittenOk
    k_fill
    intro w dp un fr gd s Q E S pm pl t p loose mg mb X T hdp hu W hp B hk hd hQ
    have hkid : ∀ q ∈ kidsAt S.kept pl, 0 < d ∧ q ∈ S.kept ∧ q.length = pl.length + 1 := fun q hq => by
      obtain ⟨h1, n, e⟩ := kids_mem.mp hq
      have := hd q h1
      rw [e] at this ⊢
      simp at this
      exact ⟨by omega, by rw [← e]; exact h1, by simp⟩
    have hbe : belowS d S.kept pl = (kidsAt S.kept pl).flatMap fun q => q :: belowS (d - 1) S.kept q := by
      cases d with
      | zero =>
        have : kidsAt S.kept pl = [] := by
          cases e : kidsAt S.kept pl with
          | nil => rfl
          | cons q r => exact absurd (hkid q (by rw [e]; exact .head _)).1 (by omega)
        rw [this]; rfl
      | succ d => rfl
    have hbl := below_len d pl W.nd
    have hlen := W.len
    rw [hbe] at hbl hQ
    clear hbe
    have Bp := B pl hp (List.prefix_refl _)
    refine' enter [(Str.ofString "book", .ref (S.loc pl).x), (Str.ofString "place", .str (pathR sl pl) t)] ?X ?T ?ho ?hcd ?hroom ?hbind ?hloc ?_ ?hco ?hgen ?hk ?hcell
    walk_at "my enter"
    k_steps
    unfold Stop
    rename_i RW _ _ _ F N
    refine For_turns F ?_
    refine MethodCall_ ?_
    refine ld F (by rfl) ?_
    refine own_items (X.keeps F.keep) (Bp.keeps F.keep) ?_
    refine callWith_method0 ?_
    refine own_call_items (X.keeps F.keep) (W.big pl hp) (Bp.keeps F.keep) ?_
    have hw := strsAre_len (vs := ([] : List Value)) .nil
    refine for_items (σ := List Value × Nat) (x := (S.loc pl).x) (C := 65) (dx := (S.loc pl).dx) (f := 191) (kids := S.kids pl) (n := (S.loc pl).n) (fun c => [(RW, listOf c.1.toArray c.2)]) (fun c => [(Str.ofString "rows", .ref RW), (Str.ofString "place", .str (pathR sl pl) t)])
      (fun i c => StrsAre c.1 ((((kidsAt S.kept pl).take i).flatMap fun q => q :: belowS (d - 1) S.kept q).map (pathR sl))) ([], 0) rfl ⟨_, Heap.get?_push_size _ rfl, rfl, rfl⟩ (.inr (Bp _ (.head _))) (F.push _) (fun p hp => ⟨Heap.get?_push_of_some _ (N p hp).1, (N p hp).2⟩) ⟨.head _, trivial⟩ ⟨by simp, trivial⟩ ⟨rfl, rfl, trivial⟩ .nil ?_ ?_
    · intro i y ty v c h tk I it u T hkv hP hT F' N' hcl hne
      obtain ⟨ys, yn⟩ := c
      unfold TS.kids at hkv
      rw [List.getElem?_map] at hkv
      obtain ⟨q, hq, hqv⟩ := Option.map_eq_some_iff.mp hkv
      obtain ⟨hd0, hqk, hql⟩ := hkid q (List.mem_of_getElem? hq)
      obtain ⟨_, n, hqn⟩ := kids_mem.mp (List.mem_of_getElem? hq)
      unfold TS.kidOf at hqv
      have e1 : n = y := by have := congrArg Prod.fst hqv; rw [hqn] at this; simpa using this
      have e2 : (.ref (S.loc q).x : Value) = v := congrArg (fun z => z.2.2) hqv
      subst e1 e2
      subst hqn
      have hq2 := (W.ok _ hqk).2.1
      have hq3 := hk _ hqk
      have hqo : S.On (pl ++ [n]) := .kept hqk
      have hqB : SubBears S w pm s.heap (pl ++ [n]) := B.down (List.prefix_append _ _)
      dsimp only [chain] at F' N' hP
      simp only [AllNe, and_true] at hne
      have ihq : WrittenOk (d - 1) := ih (d - 1) (by omega)
      have hcut : (((kidsAt S.kept pl).take (i + 1)).flatMap fun q => q :: belowS (d - 1) S.kept q) = (((kidsAt S.kept pl).take i).flatMap fun q => q :: belowS (d - 1) S.kept q) ++ ((pl ++ [n]) :: belowS (d - 1) S.kept (pl ++ [n])) := by
        rw [List.take_add_one, hq, Option.toList_some, List.flatMap_append]; simp
      have hyl := strsAre_len hP
      rw [List.length_map] at hyl
      have hle : ((((kidsAt S.kept pl).take (i + 1)).flatMap fun q => q :: belowS (d - 1) S.kept q)).length ≤ 960 := by
        refine Nat.le_trans ?_ (Nat.le_trans hbl hlen)
        conv => rhs; rw [← List.take_append_drop (i + 1) (kidsAt S.kept pl)]
        rw [List.flatMap_append, List.length_append]; omega
      rw [hcut, List.length_append, List.length_cons] at hle
      try dsimp only at hyl
      have hdq : ∀ q' ∈ S.kept, q'.length < (pl ++ [n]).length + (d - 1) := fun q' hq' => by have := hd q' hq'; omega
      k_steps
      (try simp only [List.push_toArray] at *)
      refine TEnd.intro (_, _) (by assumption) (by assumption) ⟨by k_mem, trivial⟩ (by k_mem) ⟨by simp, trivial⟩ ⟨rfl, rfl, trivial⟩ ?_
      dsimp only
      rw [hcut, List.map_append, List.map_cons, List.append_cons (List.map _ _) (pathR sl (pl ++ [n]))]
      exact strsAre_app (strsAre_snoc hP _ _) (by assumption)
    · intro c h tk u hP F' N'
      obtain ⟨ys, yn⟩ := c
      dsimp only [chain] at F' N' hP
      have e : (S.kids pl).length = (kidsAt S.kept pl).length := by unfold TS.kids; rw [List.length_map]
      rw [e, List.take_length] at hP
      k_steps
      exact hQ _ _ _ _ _ (Fr.keep (by assumption)) (News.fresh (by assumption) (.head _)) (News.get (by assumption) (.head _)) hP
end
section

section
variable {prog : Program} {w : World} {A : Around} {E : Value → Shared → Prop} {K : Frag} {x C : Addr} {ox : Obj} {od : Option Obj} {h : Heap} {g : Array GenState} {d : Drawn} {t : Nat} {os : OsState}
theorem fold_notin {C dx : Addr} {f : Addr} {kids : List Kid} {n : Nat} {y : Str} {tk : Tok} {Q : Value → Shared → Prop} (X : K.In h) (I : InstAt h x (foldObj w C dx f kids n) C od) (hf : findIn K (.ref C) "__contains__" = some (some (.builtin "dict.__contains__"))) (hsub : mroIn K C (.type "dict") = some true) (hxs : (x == sysModules) = false)
    (hq : Q (.bool (!(kfind kids y).isSome)) ⟨h, g, d, t + 1, os⟩) :
    wpAny (model prog w) A (compareOp .NotIn (.str y tk) (.ref x)) Q E ⟨h, g, d, t, os⟩ := by
  show wpAny _ A (do return .bool (!(← contains (.ref x) (.str y tk)))) Q E _
  refine wpAny_bind ?_
  unfold contains
  refine wpAny_holding ?_
  rw [stdlibNamesSay?_ref]
  refine wpAny_bind (special_inst X I hf ?_)
  show wpAny _ A (if (some (Value.builtin "dict.__contains__") == some Value.none) = true then _ else _) _ E _
  rw [if_neg (by simp)]
  refine wpAny_bind ?_
  unfold callSpecialUnlessNone?
  refine wpAny_bind (special_inst X I hf ?_)
  dsimp only
  refine wpAny_holding ?_
  refine wpAny_bind (wpAny_of_eq (F.slot_dict_contains.bind _) ?_)
  rw [if_neg (by simp)]
  refine wpAny_bind (fold_in X I hsub hxs ?_)
  refine wpAny_pure (wpAny_truthy_bool (wpAny_pure hq))
end
theorem do_notin : ∀ {w : World} {S : TS} {pm : Value} {pth : Path} {A : Around} {E : Value → Shared → Prop} {s : Shared} {y : Str} {t : Tok} {Q : Value → Shared → Prop} (X : (K2 w.params).In s.heap) (W : WF S) (B : Bears s.heap (S.objs w pm)) (hp : S.On pth)
    (h : ∀ tk, Q (.bool (!decide (pth ++ [y] ∈ S.kept))) { s with toks := tk })
    , wpAny (model PySem.Challenge.rw_il0142_02.row.prog w) A (compareOp .NotIn (.str y t) (.ref (S.loc pth).x)) Q E s := by
  k_fill
  intro w S pm pth A E s y t Q X W B hp h
  obtain ⟨bag, _, I, hb⟩ := inst_bag (w := w) (pm := pm) B.under hp
  obtain ⟨hh, gg, d, tk, os⟩ := s
  refine fold_notin X I (by k_is) (by k_is) (xs_big (W.big _ hp)) ?_
  have e : (kfind (S.kids pth) y).isSome = decide (pth ++ [y] ∈ S.kept) := by
    rw [kids_find]; split <;> simp_all
  rw [e]; exact h _
end
section

section
variable {prog : Program} {w : World} {A : Around} {E : Value → Shared → Prop} {K : Frag} {x C dx : Addr} {h : Heap} {g : Array GenState} {d : Drawn} {t : Nat} {os : OsState}
theorem get_methodF {ox : Obj} {bag : Obj} {name : Str} {f : Addr} {of : Obj} {pl : Sem Bool} {Q : Value × List Value → Shared → Prop} (X : K.In h) (I : InstAt h x ox C (some bag)) (hdx : ox.dict = some dx) (hga : findIn K (.ref C) "__getattribute__" = some (some (.builtin "collections.defaultdict.__getattribute__")))
    (hk : findIn K (.ref C) "__getattr__" = some none) (hf : findIn K (.ref C) name = some (some (.ref f))) (hof : h.get? f = some of) (hcl : of.cls = .type "function") (hb : lookIn name bag = some none)
    (hq : Q (.ref f, [.ref x]) ⟨h, g, d, t, os⟩) : wpAny (model prog w) A (getMethod (.ref x) name pl) Q E ⟨h, g, d, t, os⟩ := by
  have hbag : h.get? dx = some bag := by have := I.dict; rw [hdx] at this; exact this
  unfold getMethod
  refine wpAny_bind (special_inst X I hga ?_)
  dsimp only
  simp only [canon_ga, Bool.false_eq_true, if_false]
  refine wpAny_bind (special_inst X I hk ?_)
  simp only [Option.isSome_none, Bool.false_eq_true, if_false]
  refine wpAny_bind (special_inst X I hf ?_)
  dsimp only
  have LT : Looks (model prog w) h (typeOf (.ref f)) (.type "function") := hcl ▸ (Looks.ld hof).andThen .now
  refine wpAny_bind (LT.at ?_)
  simp only [show (Value.type "function" != Value.type "function" && Value.type "function" != Value.type "method_descriptor" && Value.type "function" != Value.type "wrapper_descriptor") = false by decide, Bool.false_eq_true, if_false]
  refine wpAny_bind (wpAny_loadPart_at I.at_ ?_)
  simp only [hdx]
  refine wpAny_bind ?_
  unfold nsGet
  refine wpAny_bind (wpAny_loadPart_at hbag ?_)
  rw [nsLook_of hb]
  refine wpAny_pure ?_
  simp only [Option.isSome_none, Bool.false_eq_true, if_false]
  exact wpAny_bind (wpAny_rule (wpAny_pure hq))
end
theorem fold_freeze : ∀ {w : World} {A : Around} {E : Value → Shared → Prop} {s : Shared} {x dx f : Addr} {kids : List Kid} {n : Nat} {bag : Obj} {pl : Sem Bool} {Q : Value × List Value → Shared → Prop} (X : (K2 w.params).In s.heap) (h1 : s.heap.get? x = some (foldObj w 65 dx f kids n)) (h2 : s.heap.get? dx = some bag) (hb : bag = bag0 ∨ ∃ tk v, bag = bagF w tk v) (h : Q (.ref 62, [.ref x]) s)
    , wpAny (model PySem.Challenge.rw_il0142_02.row.prog w) A (getMethod (.ref x) "freeze" pl) Q E s := by
  k_fill
  intro w A E s x dx f kids n bag pl Q X h1 h2 hb h
  obtain ⟨hh, gg, d, tk, os⟩ := s
  have I : InstAt hh x (foldObj w 65 dx f kids n) 65 (some bag) := ⟨h1, rfl, rfl, h2⟩
  have hm : ∃ om, (K2 w.params).lookup 62 = some om ∧ om.cls = .type "function" := ⟨_, by k_is, rfl⟩
  obtain ⟨om, hm1, hm2⟩ := hm
  exact get_methodF X I rfl (by k_is) (by k_is) (by k_is) (X _ _ hm1) hm2 (look_bag hb (by decide +kernel)) h
section
variable {g h h' : Heap} {L : Addr} {m : Str → Option Value} {l l' rest : List (Addr × Obj)}
theorem hid_frame (F : Fr g L h m) (N : News g L h (l ++ rest)) : Under (hid h l) h l ∧ Keeps g (hid h l) :=
  Under.hid (fr_under F N fun p hp => hp) fun p hp => List.mem_append_left _ hp
theorem under_frame (F : Fr g L h m) (N : News g L h (l ++ rest)) (ap : ∀ p ∈ rest, ∀ q ∈ l, @Ne Nat q.1 p.1) (U : Under (hid h l) h' l') : Fr g L h' m ∧ News g L h' (l' ++ rest) := by
  have K := (hid_frame F N).2
  have hL : ∀ o, h.get? L = some o → (hid h l).get? L = some o := fun o e => hid_at e fun p hp => (N p (List.mem_append_left _ hp)).2.1
  refine ⟨⟨F.ns.at fun o e => U.kg _ _ (hL o e), fun b o e => U.kg _ _ (K _ _ e), F.above⟩, fun p hp => ?_⟩
  rcases List.mem_append.mp hp with hp | hp
  · refine ⟨(U.at_ p hp).1, fun e => ?_, hid_fresh K (U.at_ p hp).2⟩
    obtain ⟨o, _, _, ho, _⟩ := F.ns
    have := (U.at_ p hp).2
    rw [e, hL o ho] at this; cases this
  · have n := N p (List.mem_append_right _ hp)
    exact ⟨U.kg _ _ (hid_at n.1 fun q hq e => ap p hp q hq e), n.2⟩
end
/-- what a row of the tree is not: a list -/
theorem tree_seq {S : TS} (W : WF S) {w : World} {pm : Value} {e : Addr × Obj} (he : e ∈ S.objs w pm) : ∀ vs n, e.2.data ≠ .seq vs n := by
  intro vs n hd
  rcases objs_cases he with h | ⟨p, hp, rfl | h⟩
  · obtain ⟨v, hv⟩ := code_cls W h; rw [hv] at hd; cases hd
  · cases hd
  · unfold bagObjs at h
    split at h
    · rw [List.mem_singleton.mp h] at hd; cases hd
    · rename_i z hz
      simp only [List.mem_cons, List.not_mem_nil, or_false] at h
      rcases h with rfl | rfl | rfl
      · cases hd
      · cases hd
      · rw [show (z.c, z.co).2.data = _ from (W.fzc p z hp hz).1] at hd; cases hd
theorem tree_list {g h : Heap} {L : Addr} {S : TS} (W : WF S) {w : World} {pm : Value} {rest : List (Addr × Obj)} (N : News g L h (S.objs w pm ++ rest)) {a : Addr} {vs : Array Value} {n : Nat} (ha : h.get? a = some (listOf vs n)) : ∀ q ∈ S.objs w pm, @Ne Nat q.1 a := by
  intro q hq e
  have := (N q (List.mem_append_left _ hq)).1
  rw [show q.1 = a from e, ha] at this
  exact tree_seq W hq _ _ (by rw [← Option.some.inj this])
theorem cut_addr {S : TS} {p : Path} {y : Str} {w : World} {pm : Value} {e : Addr × Obj} (he : e ∈ (S.cut p y).objs w pm) : ∃ e' ∈ S.objs w pm, e'.1 = e.1 := by
  rcases objs_cases he with h | ⟨q, hq, rfl | h⟩
  · exact ⟨e, objs_code (S := S) h, rfl⟩
  · exact ⟨_, objs_fold (cut_on.mp hq).1, cut_x.1.symm⟩
  · refine ⟨e, objs_bag (S := S) (p := q) (cut_on.mp hq).1 ?_, rfl⟩
    unfold bagObjs at h ⊢
    rw [cut_x.2.2.2, cut_x.2.1] at h; exact h
theorem tree_pop : ∀ {w : World} {S : TS} {pm : Value} {pth : Path} {A : Around} {E : Value → Shared → Prop} {s : Shared} {y : Str} {t : Tok} {Q : Value → Shared → Prop} {g : Heap} {L : Addr} {m : Str → Option Value} (X : (K2 w.params).In s.heap) (W : WF S) (F : Fr g L s.heap m) (N : News g L s.heap (S.objs w pm)) (hp : S.On pth) (hin : pth ++ [y] ∈ S.kept)
    (h : ∀ h' tk, Fr g L h' m → News g L h' ((S.cut pth y).objs w pm) → SubBears S w pm h' (pth ++ [y]) → Q (.ref (S.loc (pth ++ [y])).x) { s with heap := h', toks := tk })
    , wpAny (model PySem.Challenge.rw_il0142_02.row.prog w) A (call (.builtin "dict.pop") [.ref (S.loc pth).x, .str y t]) Q E s := by
  k_fill
  intro w S pm pth A E s y t Q g L m X W F N hp hin h
  have U : Under g s.heap (S.objs w pm) := fr_under F N fun p hp => hp
  obtain ⟨bag, _, I, hb⟩ := inst_bag (w := w) (pm := pm) U hp
  obtain ⟨hh, gg, d, tk, os⟩ := s
  have hz := kids_len W pth
  refine fold_pop (v := .ref (S.loc (pth ++ [y])).x) X I (by k_is) (by k_is) (by rw [kids_find, if_pos hin]) (by omega) (fun h' hs hx => ?_)
  have k := cut_under (y := y) W U hp (fun b o hb e => (hs.2 b hb).trans e) (by have := U.sz; have := hs.1; dsimp only at *; omega) hx
  refine h h' _ (F.update N (objs_fold hp) hs) (fun e he => ⟨(k.at_ e he).1, ?_, (k.at_ e he).2⟩) ?_
  · obtain ⟨e', he', e1⟩ := cut_addr he
    rw [← e1]; exact (N e' he').2.1
  · intro q hq hpre e he
    have hqp : q ≠ pth := fun e2 => by rw [e2] at hpre; have := hpre.length_le; simp at this; omega
    have hm : e ∈ S.objs w pm := objs_rec hq he
    refine (hs.2 _ ?_).trans (U.at_ e hm).1
    rcases fold_apart W U hp hm with q1 | q1
    · exact q1
    · exfalso
      rcases List.mem_cons.mp he with h2 | h2
      · rw [h2] at q1
        exact hqp (W.xinj _ _ hq hp (congrArg Prod.fst q1))
      · rcases bag_cases W hq h2 with ⟨_, h3⟩ | ⟨_, h3⟩ | ⟨_, h3⟩ <;> rw [q1] at h3 <;> cases h3
end
section

/-- what a new row of the tree is: an old one, a folder or its bag -/
theorem grow_row {S : TS} {p : Path} {y : Str} {x dx : Addr} {tk : Tok} {w : World} {pm : Value} {e : Addr × Obj} (he : e ∈ (S.grow p y x dx tk).objs w pm) : e ∈ S.objs w pm ∨ e.2.cls = .ref 65 ∨ e.2.cls = .type "dict" := by
  rcases objs_cases he with h | ⟨q, hq, rfl | h⟩
  · exact .inl (objs_code (S := S) h)
  · exact .inr (.inl rfl)
  · by_cases h1 : q = p ++ [y]
    · subst h1
      unfold bagObjs at h
      rw [grow_new] at h
      rw [List.mem_singleton.mp h]; exact .inr (.inr rfl)
    · have hq' : S.On q := (grow_on.mp hq).resolve_right h1
      refine .inl (objs_bag (S := S) hq' ?_)
      unfold bagObjs at h ⊢
      rw [(grow_x h1).2.2.2, (grow_x h1).2.1] at h; exact h
theorem tree_getF : ∀ {w : World} {dp un : Nat} {fr : Option (List Env)} {gd : Option (List Code)} {s : Shared} {Q E : Value → Shared → Prop} {S : TS} {pth : Path} {y : Str} {t : Tok} {pm : Value}
   {p loose' mg mb} {g : Heap} {L : Addr} {m : Str → Option Value} {rest : List (Addr × Obj)}
   (X : (K2 w.params).In g) (T : TopRead p loose' mg mb g) (F : Fr g L s.heap m) (N : News g L s.heap (S.objs w pm ++ rest)) (ap : ∀ p ∈ rest, ∀ q ∈ S.objs w pm, @Ne Nat q.1 p.1) (W : WF S) (hdp : dp + 25 < 1000) (hu : un + 120 < 9900) (hp : S.On pth)
   (hit : pth ++ [y] ∈ S.kept → ∀ tk, Q (.ref (S.loc (pth ++ [y])).x) { s with toks := tk })
   (made : pth ++ [y] ∉ S.kept → (S.loc pth).fz = none → ∀ x dx h' tk, Fr g L h' m → News g L h' ((S.grow pth y x dx t).objs w pm ++ rest) → (∀ r, S.On r → (S.loc r).x ≠ x ∧ (S.loc r).dx ≠ dx) → @LT.lt Nat _ 255 x → Q (.ref x) { s with heap := h', toks := tk })
   (lost : pth ++ [y] ∉ S.kept → (S.loc pth).fz.isSome = true → ∀ x dx h' tk, Fr g L h' m → News g L h' ((S.objs w pm ++ loose w x dx 0 bag0) ++ rest) → @Ne Nat x dx → @LT.lt Nat _ 255 x → (∀ e ∈ S.objs w pm, @Ne Nat e.1 x ∧ @Ne Nat e.1 dx) → Q (.ref x) { s with heap := h', toks := tk })
   , wpAny (model PySem.Challenge.rw_il0142_02.row.prog w) (Ar dp un fr gd) (getItem (.ref (S.loc pth).x) (.str y t)) Q E s := by
  k_fill
  intro w dp un fr gd s Q E S pth y t pm p loose' mg mb g L m rest X T F N ap W hdp hu hp hit made lost
  have H := hid_frame F N
  refine tree_get (X.keeps H.2) (T.keeps H.2) H.1 W hdp hu hp hit ?_ ?_
  · intro hn hz x dx h' tk U hfr hbig
    obtain ⟨F', N'⟩ := under_frame F N ap U
    exact made hn hz x dx h' tk F' N' hfr hbig
  · intro hn hz x dx h' tk k U nx nd ne ox od hbig
    have fre : ∀ a, s.heap.get? a = none → @Ne Nat a L ∧ g.get? a = none := fun a na => by
      refine ⟨fun e => ?_, ?_⟩
      · obtain ⟨o, _, _, ho, _⟩ := F.ns
        rw [show a = L from e, ho] at na; cases na
      · cases q : g.get? a with
        | none => rfl
        | some o => rw [F.keep _ _ q] at na; cases na
    refine lost hn hz x dx h' tk (F.keeps k) (fun e he => ?_) ne hbig fun e he => ?_
    · rcases List.mem_append.mp he with he | he
      · rcases List.mem_append.mp he with he | he
        · exact (N.keeps k) e (List.mem_append_left _ he)
        · simp only [loose, List.mem_cons, List.not_mem_nil, or_false] at he
          rcases he with rfl | rfl
          · exact ⟨ox, fre _ nx⟩
          · exact ⟨od, fre _ nd⟩
      · exact (N.keeps k) e (List.mem_append_right _ he)
    · have := (N e (List.mem_append_left _ he)).1
      exact ⟨(fun q => by rw [show e.1 = x from q, nx] at this; cases this), (fun q => by rw [show e.1 = dx from q, nd] at this; cases this)⟩
theorem loose_getF : ∀ {w : World} {dp un : Nat} {fr : Option (List Env)} {gd : Option (List Code)} {s : Shared} {Q E : Value → Shared → Prop} {l : List (Addr × Obj)} {y dy : Addr} {n : Nat} {nm : Str} {t : Tok}
   {p loose' mg mb} {g : Heap} {L : Addr} {m : Str → Option Value} {rest : List (Addr × Obj)}
   (X : (K2 w.params).In g) (T : TopRead p loose' mg mb g) (F : Fr g L s.heap m) (N : News g L s.heap ((l ++ loose w y dy n bag0) ++ rest)) (ap : ∀ p ∈ rest, ∀ q ∈ l ++ loose w y dy n bag0, @Ne Nat q.1 p.1) (hdp : dp + 25 < 1000) (hu : un + 120 < 9900)
   (hyd : @Ne Nat y dy) (hbig : @LT.lt Nat _ 255 y) (hap : ∀ e ∈ l, @Ne Nat e.1 y ∧ @Ne Nat e.1 dy)
   (hQ : ∀ x dx h' tk, Fr g L h' m → News g L h' ((l ++ loose w x dx 0 bag0) ++ rest) → @Ne Nat x dx → @LT.lt Nat _ 255 x → (∀ e ∈ l, @Ne Nat e.1 x ∧ @Ne Nat e.1 dx) → Q (.ref x) { s with heap := h', toks := tk })
   , wpAny (model PySem.Challenge.rw_il0142_02.row.prog w) (Ar dp un fr gd) (getItem (.ref y) (.str nm t)) Q E s := by
  k_fill
  intro w dp un fr gd s Q E l y dy n nm t p loose' mg mb g L m rest X T F N ap hdp hu hyd hbig hap hQ
  have H := hid_frame F N
  refine loose_get (X.keeps H.2) (T.keeps H.2) H.1 hdp hu hyd hbig hap (fun x dx h' tk U ne hb ha => ?_)
  obtain ⟨F', N'⟩ := under_frame F N ap U
  exact hQ x dx h' tk F' N' ne hb ha
theorem loose_len : ∀ {w : World} {A : Around} {E : Value → Shared → Prop} {s : Shared} {x dx : Addr} {bag : Obj} {Q : Value → Shared → Prop} (X : (K2 w.params).In s.heap) (h1 : s.heap.get? x = some (foldObj w 65 dx 191 [] 0)) (h2 : s.heap.get? dx = some bag) (hb : @LT.lt Nat _ 255 x)
    (h : ∀ t tk, Q (.int 0 t) { s with toks := tk })
    , wpAny (model PySem.Challenge.rw_il0142_02.row.prog w) A (call (.builtin "len") [.ref x]) Q E s := by
  k_fill
  intro w A E s x dx bag Q X h1 h2 hb h
  obtain ⟨hh, gg, d, tk, os⟩ := s
  have I : InstAt hh x (foldObj w 65 dx 191 [] 0) 65 (some bag) := ⟨h1, rfl, rfl, h2⟩
  exact fold_len X I (by k_is) (by k_is) (by k_is) (xs_big hb) (by simp) (fun t1 t2 => h _ _)
/-- the state of the way down: what the tree is, and the folder come to -/
noncomputable def LedW (w : World) (pm : Value) (nm : Addr) (us : List Value) (uq : Nat) (c : TS × Option (Addr × Addr)) : List (Addr × Obj) :=
  (c.1.objs w pm ++ match c.2 with | none => [] | some z => loose w z.1 z.2 0 bag0) ++ [(nm, listOf us.toArray uq)]
noncomputable def comeAt (c : TS × Option (Addr × Addr)) (q : Path) : Addr := match c.2 with | none => (c.1.loc q).x | some z => z.1
structure WayOk (S : TS) (icy : List Path) (ns : List Str) (w : World) (pm : Value) (i : Nat) (c : TS × Option (Addr × Addr)) : Prop where
  wf : WF c.1
  kept : c.1.kept = (goS icy S.kept (ns.take i)).1
  flag : (goS icy S.kept (ns.take i)).2.2 = c.2.isSome
  on : c.2 = none → c.1.On (ns.take i)
  fz : ∀ q, c.1.On q → ((c.1.loc q).fz.isSome = true ↔ q ∈ icy)
  top : (c.1.loc []).x = (S.loc []).x
  big : ∀ z, c.2 = some z → @LT.lt Nat _ 255 z.1 ∧ @Ne Nat z.1 z.2 ∧ ∀ e ∈ c.1.objs w pm, @Ne Nat e.1 z.1 ∧ @Ne Nat e.1 z.2
  off : c.2.isSome = true → ¬ c.1.On ns

theorem allNe_mem {a : Addr} : ∀ {l : List (Addr × Obj)}, AllNe a l → ∀ p ∈ l, @Ne Nat p.1 a
  | [], _, p, hp => absurd hp (by simp)
  | q :: r, h, p, hp => by
    simp only [AllNe] at h
    rcases List.mem_cons.mp hp with rfl | hp
    · exact fun e => h.1 (by first | exact e.symm | exact e)
    · exact allNe_mem h.2 p hp
theorem kept_ok {S : TS} (W : WF S) (hk : ∀ q ∈ S.kept, (pathR sl q).length ≤ 1000) : KeptOk S.kept :=
  ⟨fun q hq => ⟨(W.ok q hq).1, (W.ok q hq).2.1, hk q hq⟩, fun r hr k h0 hk => (on_take W (.kept hr) k).cases.resolve_left (fun e => by have := congrArg List.length e; rw [List.length_take, List.length_nil] at this; omega), W.nd⟩
theorem goS_stuck1 {icy kept : List Path} {ns : List Str} {i : Nat} {y : Str} (hy : ns[i]? = some y) (h : (goS icy kept (ns.take i)).2.2 = true) : (goS icy kept (ns.take (i + 1))).1 = (goS icy kept (ns.take i)).1 ∧ (goS icy kept (ns.take (i + 1))).2.2 = true := by
  rw [goS_take icy kept ns hy]
  unfold goStep
  rw [if_pos h]
  exact ⟨rfl, rfl⟩
theorem way_step : ∀ {w : World} {dp un : Nat} {fr : Option (List Env)} {gd : Option (List Code)} {s : Shared} {Q E : Value → Shared → Prop} {S : TS} {icy : List Path} {ns : List Str} {c : TS × Option (Addr × Addr)} {nm : Addr} {us : List Value} {uq i : Nat} {y : Str} {t : Tok} {pm : Value} {I : Addr} {it : Obj}
   {p loose' mg mb} {g : Heap} {L : Addr} {m : Str → Option Value}
   (X : (K2 w.params).In g) (T : TopRead p loose' mg mb g) (F : Fr g L s.heap m) (N : News g L s.heap ((I, it) :: LedW w pm nm us uq c)) (hne : AllNe I (LedW w pm nm us uq c))
   (hW : WayOk S icy ns w pm i c) (hy : ns[i]? = some y) (hns : NamesOk ns) (hlen : ns.length ≤ 60) (hpl : (pathR sl ns).length ≤ 1000) (hko : KeptOk S.kept) (hk9 : S.kept.length ≤ 900) (hic : ∀ q ∈ icy, S.On q) (hdp : dp + 25 < 1000) (hu : un + 120 < 9900)
   (hQ : ∀ c' h' tk, WayOk S icy ns w pm (i + 1) c' → Fr g L h' m → News g L h' ((I, it) :: LedW w pm nm us uq c') → OffI "list_iterator" I (LedW w pm nm us uq c') → Q (.ref (comeAt c' (ns.take (i + 1)))) { s with heap := h', toks := tk })
   , wpAny (model PySem.Challenge.rw_il0142_02.row.prog w) (Ar dp un fr gd) (getItem (.ref (comeAt c (ns.take i))) (.str y t)) Q E s := by
  k_fill
  intro w dp un fr gd s Q E S icy ns c nm us uq i y t pm I it p loose' mg mb g L m X T F N hne hW hy hns hlen hpl hko hk9 hic hdp hu hQ
  have hne' := allNe_mem hne
  obtain ⟨S1, z⟩ := c
  obtain ⟨W1, hkept, hflag, hon, hfz, htop, hbig, hoff⟩ := hW
  dsimp only at W1 hkept hflag hon hfz htop hbig hoff
  have hil : i < ns.length := (List.getElem?_eq_some_iff.mp hy).1
  have ht : ns.take (i + 1) = ns.take i ++ [y] := by rw [List.take_add_one, hy]; rfl
  have hnmr : (nm, listOf us.toArray uq) ∈ LedW w pm nm us uq (S1, z) := List.mem_append_right _ (.head _)
  have hnm : s.heap.get? nm = some (listOf us.toArray uq) := (N _ (.tail _ hnmr)).1
  cases z with
  | none =>
    have ho : S1.On (ns.take i) := hon rfl
    have N1 : News g L s.heap (S1.objs w pm ++ [(nm, listOf us.toArray uq), (I, it)]) := fun e he => by
      rcases List.mem_append.mp he with he | he
      · exact N e (.tail _ (List.mem_append_left _ (List.mem_append_left _ he)))
      · simp only [List.mem_cons, List.not_mem_nil, or_false] at he
        rcases he with rfl | rfl
        · exact N _ (.tail _ hnmr)
        · exact N _ (.head _)
    have hI : ∀ q ∈ S1.objs w pm, @Ne Nat q.1 I := fun q hq => hne' q (List.mem_append_left _ (List.mem_append_left _ hq))
    have ap : ∀ r ∈ [(nm, listOf us.toArray uq), (I, it)], ∀ q ∈ S1.objs w pm, @Ne Nat q.1 r.1 := fun r hr q hq => by
      simp only [List.mem_cons, List.not_mem_nil, or_false] at hr
      rcases hr with rfl | rfl
      · exact tree_list W1 N1 hnm q hq
      · exact hI q hq
    have hnx := goS_next (icy := icy) (kept := S.kept) hil hflag
    rw [← hkept, ht] at hnx
    have hnI : @Ne Nat nm I := hne' _ hnmr
    have hlst : OffI "list_iterator" I [(nm, listOf us.toArray uq)] := .of_ne fun q hq => by rw [List.mem_singleton.mp hq]; exact .inr hnI
    have hks : ∀ q ∈ S.kept, q ∈ S1.kept := fun q hq => by rw [hkept]; exact (goS_ok (icy := icy) hko hns hpl i (by omega)).2.2.1 q hq
    have hkl : S1.kept.length ≤ S.kept.length + i := by rw [hkept]; exact (goS_ok (icy := icy) hko hns hpl i (by omega)).2.2.2
    refine tree_getF X T F N1 ap W1 hdp hu ho ?_ ?_ ?_
    · intro hin tk
      rw [if_pos hin, ← ht] at hnx
      have := hQ (S1, none) s.heap tk ⟨W1, by rw [hnx], by rw [hnx]; rfl, fun _ => by rw [ht]; exact .kept hin, hfz, htop, (fun z e => nomatch e), (fun e => nomatch e)⟩ F N (.of_ne fun q hq => .inr (hne' q hq))
      rw [ht] at this
      exact this
    · intro hin hz x dx h' tk F' N' hfr hb
      have hni : ns.take i ∉ icy := fun e => by have := (hfz _ ho).mpr e; rw [hz] at this; cases this
      rw [if_neg hin, if_neg hni, ← ht] at hnx
      have W2 : WF (S1.grow (ns.take i) y x dx t) := grow_wf W1 ho (hns y (List.mem_of_getElem? hy)) hin hfr (by rw [List.length_take]; omega) (by omega) hb
      have := hQ (S1.grow (ns.take i) y x dx t, none) h' tk ⟨W2, by rw [hnx]; show S1.kept ++ [_] = _; rw [ht], by rw [hnx]; rfl, fun _ => by rw [ht]; exact grow_on.mpr (.inr rfl), fun q hq => ?_, ?_, (fun z e => nomatch e), (fun e => nomatch e)⟩ F' (fun e he => ?_) ?_
      · rw [ht] at this
        dsimp only [comeAt] at this
        rw [grow_new] at this
        exact this
      · by_cases e : q = ns.take i ++ [y]
        · subst e
          dsimp only
          rw [grow_new]
          refine ⟨(fun e => nomatch e), fun e => ?_⟩
          rcases (hic _ e).cases with h | h
          · simp at h
          · exact absurd (hks _ h) hin
        · dsimp only
          rw [(grow_x e).2.2.2]
          exact hfz q ((grow_on.mp hq).resolve_right e)
      · dsimp only
        rw [(grow_x (by simp)).1]; exact htop
      · rcases List.mem_cons.mp he with rfl | he
        · exact N' _ (List.mem_append_right _ (.tail _ (.head _)))
        · unfold LedW at he
          dsimp only at he
          rw [List.append_nil] at he
          rcases List.mem_append.mp he with he | he
          · exact N' e (List.mem_append_left _ he)
          · rw [List.mem_singleton.mp he]; exact N' _ (List.mem_append_right _ (.head _))
      · refine .of_ne fun e he => ?_
        unfold LedW at he
        dsimp only at he
        rw [List.append_nil] at he
        rcases List.mem_append.mp he with he | he
        · rcases grow_row he with h | h | h
          · exact .inr (hI e h)
          · exact .inl (by rw [h]; exact fun e => nomatch e)
          · exact .inl (by rw [h]; decide)
        · rw [List.mem_singleton.mp he]; exact .inr hnI
    · intro hin hz x dx h' tk F' N' hxd hb hap
      have hi2 : ns.take i ∈ icy := (hfz _ ho).mp hz
      rw [if_neg hin, if_pos hi2, ← ht] at hnx
      have hoffn : ¬ S1.On ns := fun h => by
        have := on_take W1 h (i + 1)
        rw [ht] at this
        rcases this.cases with e | e
        · simp at e
        · exact hin e
      have := hQ (S1, some (x, dx)) h' tk ⟨W1, by rw [hnx], by rw [hnx]; rfl, (fun e => nomatch e), hfz, htop, (fun z e => by cases e; exact ⟨hb, hxd, hap⟩), fun _ => hoffn⟩ F' (fun e he => ?_) ?_
      · exact this
      · rcases List.mem_cons.mp he with rfl | he
        · exact N' _ (List.mem_append_right _ (.tail _ (.head _)))
        · unfold LedW at he
          rcases List.mem_append.mp he with he | he
          · exact N' e (List.mem_append_left _ he)
          · rw [List.mem_singleton.mp he]; exact N' _ (List.mem_append_right _ (.head _))
      · refine .of_ne fun e he => ?_
        unfold LedW at he
        rcases List.mem_append.mp he with he | he
        · rcases List.mem_append.mp he with he | he
          · exact .inr (hI e he)
          · simp only [loose, List.mem_cons, List.not_mem_nil, or_false] at he
            rcases he with rfl | rfl
            · exact .inl (fun e => nomatch e)
            · exact .inl (show Value.type "dict" ≠ Value.type "list_iterator" by decide)
        · rw [List.mem_singleton.mp he]; exact .inr hnI
  | some z =>
    obtain ⟨y0, dy0⟩ := z
    obtain ⟨hb0, hne0, hap0⟩ := hbig _ rfl
    have N1 : News g L s.heap ((S1.objs w pm ++ loose w y0 dy0 0 bag0) ++ [(nm, listOf us.toArray uq), (I, it)]) := fun e he => by
      rcases List.mem_append.mp he with he | he
      · exact N e (.tail _ (List.mem_append_left _ he))
      · simp only [List.mem_cons, List.not_mem_nil, or_false] at he
        rcases he with rfl | rfl
        · exact N _ (.tail _ hnmr)
        · exact N _ (.head _)
    have hI : ∀ q ∈ S1.objs w pm ++ loose w y0 dy0 0 bag0, @Ne Nat q.1 I := fun q hq => hne' q (List.mem_append_left _ hq)
    have hnI : @Ne Nat nm I := hne' _ hnmr
    have ap : ∀ r ∈ [(nm, listOf us.toArray uq), (I, it)], ∀ q ∈ S1.objs w pm ++ loose w y0 dy0 0 bag0, @Ne Nat q.1 r.1 := fun r hr q hq => by
      simp only [List.mem_cons, List.not_mem_nil, or_false] at hr
      rcases hr with rfl | rfl
      · rcases List.mem_append.mp hq with hq | hq
        · exact tree_list W1 (rest := loose w y0 dy0 0 bag0 ++ [(nm, listOf us.toArray uq), (I, it)]) (by rw [← List.append_assoc]; exact N1) hnm q hq
        · intro e
          have h1 := (N1 q (List.mem_append_left _ (List.mem_append_right _ hq))).1
          rw [show q.1 = nm from e, hnm] at h1
          simp only [loose, List.mem_cons, List.not_mem_nil, or_false] at hq
          rcases hq with rfl | rfl
          · cases h1
          · exact absurd (congrArg Obj.cls (Option.some.inj h1)) (show ¬ Value.type "list" = Value.type "dict" by decide)
      · exact hI q hq
    have hs1 : (goS icy S.kept (ns.take i)).2.2 = true := hflag
    obtain ⟨g1, g2⟩ := goS_stuck1 hy hs1
    refine loose_getF X T F N1 ap hdp hu hne0 hb0 hap0 (fun x dx h' tk F' N' hxd hb hap => ?_)
    refine hQ (S1, some (x, dx)) h' tk ⟨W1, by rw [g1]; exact hkept, by rw [g2]; rfl, (fun e => nomatch e), hfz, htop, (fun z e => by cases e; exact ⟨hb, hxd, hap⟩), fun _ => hoff rfl⟩ F' (fun e he => ?_) ?_
    · rcases List.mem_cons.mp he with rfl | he
      · exact N' _ (List.mem_append_right _ (.tail _ (.head _)))
      · unfold LedW at he
        rcases List.mem_append.mp he with he | he
        · exact N' e (List.mem_append_left _ he)
        · rw [List.mem_singleton.mp he]; exact N' _ (List.mem_append_right _ (.head _))
    · refine .of_ne fun e he => ?_
      unfold LedW at he
      rcases List.mem_append.mp he with he | he
      · rcases List.mem_append.mp he with he | he
        · exact .inr (hI e (List.mem_append_left _ he))
        · simp only [loose, List.mem_cons, List.not_mem_nil, or_false] at he
          rcases he with rfl | rfl
          · exact .inl (fun e => nomatch e)
          · exact .inl (show Value.type "dict" ≠ Value.type "list_iterator" by decide)
      · rw [List.mem_singleton.mp he]; exact .inr hnI
end
section

theorem tree_freezeF : ∀ {w : World} {dp un : Nat} {fr : Option (List Env)} {gd : Option (List Code)} {s : Shared} {Q E : Value → Shared → Prop} {S : TS} {pth : Path}
   {p loose' mean mg mb} {g : Heap} {L : Addr} {m : Str → Option Value} {rest : List (Addr × Obj)}
   (X : (K2 w.params).In g) (TT : Top p loose' mean mg mb g) (CH : CodeHd g 61 57) (F : Fr g L s.heap m) (N : News g L s.heap (S.objs w ((mg "__name__").getD .none) ++ rest)) (ap : ∀ p ∈ rest, ∀ q ∈ S.objs w ((mg "__name__").getD .none), @Ne Nat q.1 p.1) (W : WF S) (hdp : dp + 15 < 1000) (hu : un + 60 < 9900) (hp : S.On pth)
   (hQ : ∀ z code h' tk, CodeOk S code → z.co.data = .cell (some (.ref (S.loc pth).x)) → Fr g L h' m → News g L h' ((S.ice pth z code).objs w ((mg "__name__").getD .none) ++ rest) → Q .none { s with heap := h', toks := tk })
   , wpAny (model PySem.Challenge.rw_il0142_02.row.prog w) (Ar dp un fr gd) (call (.ref 62) [.ref (S.loc pth).x]) Q E s := by
  k_fill
  intro w dp un fr gd s Q E S pth p loose' mean mg mb g L m rest X TT CH F N ap W hdp hu hp hQ
  have H := hid_frame F N
  refine tree_freeze (X.keeps H.2) (TT.keeps H.2) (CH.keeps H.2) H.1 W hdp hu hp (fun z code h' tk hc hz U => ?_)
  obtain ⟨F', N'⟩ := under_frame F N ap U
  exact hQ z code h' tk hc hz F' N'
theorem loose_freezeF : ∀ {w : World} {dp un : Nat} {fr : Option (List Env)} {gd : Option (List Code)} {s : Shared} {Q E : Value → Shared → Prop} {S : TS} {y dy : Addr} {n : Nat}
   {p loose' mean mg mb} {g : Heap} {L : Addr} {m : Str → Option Value} {rest : List (Addr × Obj)}
   (X : (K2 w.params).In g) (TT : Top p loose' mean mg mb g) (CH : CodeHd g 61 57) (F : Fr g L s.heap m) (N : News g L s.heap ((S.objs w ((mg "__name__").getD .none) ++ loose w y dy n bag0) ++ rest)) (ap : ∀ p ∈ rest, ∀ q ∈ S.objs w ((mg "__name__").getD .none) ++ loose w y dy n bag0, @Ne Nat q.1 p.1) (W : WF S) (hdp : dp + 15 < 1000) (hu : un + 60 < 9900)
   (hyd : @Ne Nat y dy) (hap : ∀ e ∈ S.objs w ((mg "__name__").getD .none), @Ne Nat e.1 y ∧ @Ne Nat e.1 dy)
   (hQ : ∀ code tk0 lam h' tk, CodeOk S code → Fr g L h' m → News g L h' (((S.mint code).objs w ((mg "__name__").getD .none) ++ loose w y dy n (bagF w tk0 (.ref lam))) ++ rest) → Q .none { s with heap := h', toks := tk })
   , wpAny (model PySem.Challenge.rw_il0142_02.row.prog w) (Ar dp un fr gd) (call (.ref 62) [.ref y]) Q E s := by
  k_fill
  intro w dp un fr gd s Q E S y dy n p loose' mean mg mb g L m rest X TT CH F N ap W hdp hu hyd hap hQ
  have H := hid_frame F N
  refine loose_freeze (X.keeps H.2) (TT.keeps H.2) (CH.keeps H.2) H.1 W hdp hu hyd hap (fun code tk0 lam h' tk hc U => ?_)
  obtain ⟨F', N'⟩ := under_frame F N ap U
  exact hQ code tk0 lam h' tk hc F' N'
theorem meth_freeze : ∀ {w : World} {S : TS} {pm : Value} {pth : Path} {A : Around} {E : Value → Shared → Prop} {s : Shared} {pl : Sem Bool} {Q : Value × List Value → Shared → Prop} (X : (K2 w.params).In s.heap) (B : Bears s.heap (S.objs w pm)) (hp : S.On pth) (h : Q (.ref 62, [.ref (S.loc pth).x]) s)
    , wpAny (model PySem.Challenge.rw_il0142_02.row.prog w) A (getMethod (.ref (S.loc pth).x) "freeze" pl) Q E s := by
  k_fill
  intro w S pm pth A E s pl Q X B hp h
  obtain ⟨bag, _, I, hb⟩ := inst_bag (w := w) (pm := pm) B.under hp
  exact fold_freeze X I.at_ I.dict hb h
theorem way_tail : ∀ {w : World} {dp un : Nat} {fr : Option (List Env)} {gd : Option (List Code)} {s : Shared} {Q E : Value → Shared → Prop} {S : TS} {icy : List Path} {ns : List Str} {c : TS × Option (Addr × Addr)} {nm : Addr} {us : List Value} {uq i : Nat} {y : Str} {t : Tok} {pm : Value} {I : Addr} {it : Obj}
   {p loose' mg mb} {g : Heap} {L : Addr} {m : Str → Option Value} {vn : Str} {np : Pos} {slice : Expr}
   (X : (K2 w.params).In g) (T : TopRead p loose' mg mb g) (F : Fr g L s.heap m) (N : News g L s.heap ((I, it) :: LedW w pm nm us uq c)) (hne : AllNe I (LedW w pm nm us uq c))
   (hW : WayOk S icy ns w pm i c) (hy : ns[i]? = some y) (hns : NamesOk ns) (hlen : ns.length ≤ 60) (hpl : (pathR sl ns).length ≤ 1000) (hko : KeptOk S.kept) (hk9 : S.kept.length ≤ 900) (hic : ∀ q ∈ icy, S.On q) (hdp : dp + 25 < 1000) (hu : un + 120 < 9900)
   (hs : subscripted slice false (.ref (comeAt c (ns.take i))) (.str y t) = operate [.ref (comeAt c (ns.take i)), .str y t] (getItem (.ref (comeAt c (ns.take i))) (.str y t)))
   (hQ : ∀ c' h' tk, WayOk S icy ns w pm (i + 1) c' → Fr g L h' m → News g L h' ((I, it) :: LedW w pm nm us uq c') → OffI "list_iterator" I (LedW w pm nm us uq c') → Q (.ref (comeAt c' (ns.take (i + 1)))) { s with heap := h', toks := tk })
   , wpAny (model PySem.Challenge.rw_il0142_02.row.prog w) (Ar dp un fr gd) (subscriptTail (.Name vn np) slice (.ref (comeAt c (ns.take i))) (.str y t)) Q E s := by
  k_fill
  intro w dp un fr gd s Q E S icy ns c nm us uq i y t pm I it p loose' mg mb g L m vn np slice X T F N hne hW hy hns hlen hpl hko hk9 hic hdp hu hs hQ
  have hI : ∃ ox od, InstAt s.heap (comeAt c (ns.take i)) ox 65 od := by
    obtain ⟨S1, z⟩ := c
    cases z with
    | none =>
      have B : Bears s.heap (S1.objs w pm) := fun e he => (N e (.tail _ (List.mem_append_left _ (List.mem_append_left _ he)))).1
      obtain ⟨bag, _, I, hb⟩ := inst_bag (w := w) (pm := pm) B.under (hW.on rfl)
      exact ⟨_, _, I⟩
    | some z =>
      have h1 := (N (z.1, foldObj w 65 z.2 191 [] 0) (.tail _ (List.mem_append_left _ (List.mem_append_right _ (.head _))))).1
      have h2 := (N (z.2, bag0) (.tail _ (List.mem_append_left _ (List.mem_append_right _ (.tail _ (.head _)))))).1
      exact ⟨_, some bag0, h1, rfl, rfl, h2⟩
  obtain ⟨ox, od, hI⟩ := hI
  refine tail_fold (X.keeps F.keep) hI (by k_is) ?_ hs
  exact way_step X T F N hne hW hy hns hlen hpl hko hk9 hic hdp hu hQ
theorem News.rot {g h : Heap} {L : Addr} {l : List (Addr × Obj)} {r : Addr × Obj} (N : News g L h (l ++ [r])) : News g L h (r :: l) := fun e he => by
  rcases List.mem_cons.mp he with rfl | he
  · exact N _ (List.mem_append_right _ (.head _))
  · exact N e (List.mem_append_left _ he)
theorem News.rot1 {g h : Heap} {L : Addr} {l : List (Addr × Obj)} {r : Addr × Obj} (N : News g L h (r :: l)) : News g L h (l ++ [r]) := fun e he => by
  rcases List.mem_append.mp he with he | he
  · exact N e (.tail _ he)
  · rw [List.mem_singleton.mp he]; exact N _ (.head _)
theorem News.rot3 {g h : Heap} {L : Addr} {l : List (Addr × Obj)} {a b r : Addr × Obj} (N : News g L h ((l ++ [a, b]) ++ [r])) : News g L h (r :: a :: b :: l) := fun e he => by
  rcases List.mem_cons.mp he with rfl | he
  · exact N _ (List.mem_append_right _ (.head _))
  rcases List.mem_cons.mp he with rfl | he
  · exact N _ (List.mem_append_left _ (List.mem_append_right _ (.head _)))
  rcases List.mem_cons.mp he with rfl | he
  · exact N _ (List.mem_append_left _ (List.mem_append_right _ (.tail _ (.head _))))
  · exact N e (List.mem_append_left _ (List.mem_append_left _ he))
theorem News.rot31 {g h : Heap} {L : Addr} {l : List (Addr × Obj)} {a b r : Addr × Obj} (N : News g L h (r :: a :: b :: l)) : News g L h ((l ++ [a, b]) ++ [r]) := fun e he => by
  simp only [List.mem_append, List.mem_cons, List.not_mem_nil, or_false] at he
  rcases he with (he | rfl | rfl) | rfl
  · exact N e (.tail _ (.tail _ (.tail _ he)))
  · exact N _ (.tail _ (.head _))
  · exact N _ (.tail _ (.tail _ (.head _)))
  · exact N _ (.head _)
theorem News.drop1 {g h : Heap} {L : Addr} {l : List (Addr × Obj)} {r a : Addr × Obj} (N : News g L h (r :: a :: l)) : News g L h (r :: l) := fun e he => by
  rcases List.mem_cons.mp he with rfl | he
  · exact N _ (.head _)
  · exact N e (.tail _ (.tail _ he))
end
section
local macro_rules | `(tactic| walk_at "subscriptTail Name Slice ref ref") => `(tactic| (k_here; (with_reducible show wpAny _ _ (subscriptTail _ (PySem.Expr.Slice _ _ none _) (Value.ref _) (Value.ref _)) _ _ _); (refine' kmk_slice ?F ?N ?l ?p ?q ?_ ?s ?t ?z; (case F => k_asm); (case N => k_asm); (case l => kmk_list); (case p => kmk_part); (case q => kmk_part); (case s => with_unfolding_all rfl); (case t => kmk_pure); (case z => (rw [List.size_toArray, sizeLine_eq]; omega))); (intro D' h' F' N' l1; (try simp only [pick_upto, pick_upto1, pick_init] at N'); (try k_lt l1); (try k_sweep))))

theorem bears_of {g h : Heap} {L : Addr} {news l : List (Addr × Obj)} (N : News g L h news) (hs : ∀ e ∈ l, e ∈ news) : Bears h l := fun p hp => (N p (hs p hp)).1
local macro_rules | `(tactic| walk_at "my tail") => `(tactic| (intro e he; (repeat (first | exact he | refine List.mem_cons_of_mem _ ?_))))
local macro_rules | `(tactic| walk_at "call ref") => `(tactic| (
  (with_reducible show wpAny _ _ (PySem.call (Value.ref 205) [Value.str _ _]) _ _ _);
  (k_dflt (refine' parts_ct ?X ?T ?d ?u ?r ?ns ?l ?_)); (case r => exact .inl rfl); (case ns => assumption); (case l => assumption); walk_at "my pre";
  intro a' us' un' h' tk' kp' fr' ob' hu'; walk_at "my add1"))
local macro_rules | `(tactic| walk_at "call ref") => `(tactic| (
  (with_reducible show wpAny _ _ (PySem.call (Value.ref 212) [Value.ref _, Value.ref _]) _ _ _);
  (k_dflt (refine' found_ct ?X ?T ?d ?u ?W ?B ?n ?v ?_)); (case W => assumption); (case B => exact bears_of (by assumption) (by walk_at "my tail")); (case n => exact News.get (by assumption) (by k_mem)); (case v => first | assumption | exact strsAre_take _ (by assumption)); walk_at "my pre";
  (first | rw [if_pos (by assumption)] | rw [if_neg (by assumption)]); intro h' tk' kp'; walk_at "my keep"))
theorem strsAre_init {vs : List Value} {ys : List Str} (h : StrsAre vs ys) : StrsAre vs.dropLast ys.dropLast := by
  rw [List.dropLast_eq_take, List.dropLast_eq_take, strsAre_len h]
  exact strsAre_take _ h
theorem datAll_ss {news : List (Addr × Obj)} : ∀ {us : List Value} {ys : List Str}, StrsAre us ys → DatAll news us (ys.map .str)
  | _, _, .nil => .nil
  | _, _, .cons y t h => .cons (.str _ _) (datAll_ss h)
section
variable {prog : Program} {w : World} {A : Around} {E : Value → Shared → Prop} {s : Shared} {D l L : Addr} {g : Heap} {m : Str → Option Value} {news : List (Addr × Obj)}
theorem eq_nil {us : List Value} {ys : List Str} {n : Nat} {Q : Value → Shared → Prop} (N : News g L s.heap news) (hm : (D, listOf us.toArray n) ∈ news) (hl : (l, listOf #[] 0) ∈ news) (hv : StrsAre us ys) (hso : ∀ y ∈ ys, PyData.strOk y = true) (hu : A.units + 64 < cLine)
    (h : Q (.bool (decide (ys = []))) s) : wpAny (model prog w) A (compareOp .Eq (.ref D) (.ref l)) Q E s := by
  refine kqd_eq (xs := us) (ys := []) (ds := ys.map .str) (es := []) (n₁ := []) (n₂ := []) N hm rfl rfl (datAll_ss hv) (by simp) hl rfl rfl .nil (by simp) ?_ (by simp) hu ?_
  · intro d hd
    obtain ⟨y, hy, rfl⟩ := List.mem_map.mp hd
    exact hso y hy
  · have e : decide (ys.map Dat.str = []) = decide (ys = []) := by simp
    rw [e]; exact h
end
theorem count_le (far : Nat) : ∀ n : Nat, (List.range' 1 n).countP (fun j => decide (j ≤ far)) = min far n
  | 0 => by simp
  | n + 1 => by
    rw [range_snoc, List.countP_append, count_le far n, List.countP_singleton]
    by_cases h : n + 1 ≤ far
    · simp [h]; omega
    · have h1 : far ≤ n := Nat.le_of_lt_succ (Nat.lt_of_not_le h)
      rw [Nat.min_eq_left h1, Nat.min_eq_left (Nat.le_succ_of_le h1)]; simp [h]
theorem count_far {S : TS} (W : WF S) {ns : Path} {far : Nat} (h1 : S.On (ns.take far)) (h2 : far ≤ ns.length) (h3 : far = ns.length ∨ ¬ S.On (ns.take (far + 1))) :
    (List.range' 1 ns.length).countP (fun j => decide (ns.take j ∈ S.kept)) = far := by
  have key : ∀ j ∈ List.range' 1 ns.length, decide (ns.take j ∈ S.kept) = decide (j ≤ far) := fun j hj => by
    obtain ⟨i, hi, rfl⟩ := List.mem_range'.mp hj
    rw [show 1 + 1 * i = i + 1 by omega]
    by_cases h : i + 1 ≤ far
    · have e : (ns.take far).take (i + 1) = ns.take (i + 1) := by rw [List.take_take, Nat.min_eq_left h]
      have o := on_take W h1 (i + 1)
      rw [e] at o
      rcases o.cases with o | o
      · exfalso; have := congrArg List.length o; rw [List.length_take, List.length_nil] at this; omega
      · rw [decide_eq_true o, decide_eq_true h]
    · have n : ns.take (i + 1) ∉ S.kept := fun o => by
        rcases h3 with h3 | h3
        · omega
        · have o2 := on_take W (.kept o) (far + 1)
          rw [List.take_take, Nat.min_eq_left (by omega)] at o2
          exact h3 o2
      rw [decide_eq_false n, decide_eq_false h]
  rw [List.countP_congr (q := fun j => decide (j ≤ far)) (fun j hj => by rw [key j hj]), count_le, Nat.min_eq_left h2]
local macro_rules | `(tactic| walk_at "call builtin:len") => `(tactic| (
  (with_reducible show wpAny _ _ (PySem.call (Value.builtin "len") [Value.ref _]) _ _ _);
  (refine' len_strsA ?a ?b ?c ?_); (case a => exact News.isList (by assumption) (by k_mem)); (case b => assumption); (case c => omega)))
local macro_rules | `(tactic| walk_at "compareOp Eq ref ref") => `(tactic| (
  (with_reducible show wpAny _ _ (compareOp CmpOp.Eq (Value.ref _) (Value.ref _)) _ _ _);
  k_dflt ((refine' eq_nil ?N ?a ?b ?v ?l ?u ?_); (case N => assumption); (case a => k_mem); (case b => k_mem); (case v => assumption); (case l => assumption); (case u => (show _ < 9900; walk_at "my room")); (first | rw [decide_eq_true (by assumption)] | rw [decide_eq_false (by assumption)]))))
theorem last_getD (a : List Str) (b : Str) : (a ++ [b]).getD (-1 + ((a ++ [b]).length : Int)).toNat Str.empty = b := by
  rw [show (-1 + ((a ++ [b]).length : Int)).toNat = a.length by rw [List.length_append]; exact neg1n _]
  simp
local macro_rules | `(tactic| walk_at "compareOp NotIn str ref") => `(tactic| (
  (with_reducible show wpAny _ _ (compareOp CmpOp.NotIn (Value.str _ _) (Value.ref (Loc.x _))) _ _ _);
  (simp only [last_getD]); (refine' do_notin ?X ?W ?B ?p ?_); (case X => k_in); (case W => assumption); (case B => exact bears_of (by assumption) (by walk_at "my tail")); (case p => assumption);
  (first | rw [decide_eq_true (by assumption)] | rw [decide_eq_false (by assumption)]); intro _))

theorem fr_under_hd {g h : Heap} {L : Addr} {m : Str → Option Value} {r : Addr × Obj} {rest : List (Addr × Obj)} (F : Fr g L h m) (N : News g L h (r :: rest)) : Under g h (rest ++ [r]) :=
  fr_under F N fun e he => by
    rcases List.mem_append.mp he with he | he
    · exact List.mem_cons_of_mem _ he
    · rw [List.mem_singleton.mp he]; exact .head _
theorem News.less {g h : Heap} {L : Addr} {news l : List (Addr × Obj)} (N : News g L h news) (hs : ∀ e ∈ l, e ∈ news) : News g L h l := fun p hp => N p (hs p hp)
local macro_rules | `(tactic| walk_at "getMethod ref") => `(tactic| (
  (with_reducible show wpAny _ _ (getMethod (Value.ref (Loc.x _)) "pop" _) _ _ _);
  (refine' meth_pop ?X ?B ?p ?_); (case X => k_in); (case B => exact bears_of (by assumption) (by walk_at "my tail")); (case p => assumption)))
local macro_rules | `(tactic| walk_at "call builtin:dict.pop") => `(tactic| (
  (with_reducible show wpAny _ _ (PySem.call (Value.builtin "dict.pop") [Value.ref (Loc.x _), Value.str _ _]) _ _ _);
  (simp only [last_getD]); (refine' tree_pop ?X ?W ?F ?N ?p ?i ?_); (case X => k_in); (case W => assumption); (case F => assumption); (case N => exact News.less (by assumption) (by walk_at "my tail")); (case p => assumption); (case i => assumption);
  intro h' tk' F' N' SB'; (try k_sweep)))
local macro_rules | `(tactic| walk_at "call ref") => `(tactic| (
  (with_reducible show wpAny _ _ (PySem.call (Value.ref 219) [Value.ref _, Value.str _ _]) _ _ _);
  (k_dflt (refine' WrittenOk.use (written_ct 61) ?X ?T ?d ?u ?W ?p ?B ?k ?hd ?_)); (case W => assumption); (case p => exact TS.On.kept (by assumption)); (case B => assumption); (case k => assumption); (case hd => assumption); walk_at "my pre";
  intro a' us' un' h' tk' kp' fr' ob' hu'; (have F' := Fr.keeps (by assumption) kp'); (have N' := news_add kp' fr' ob' (by assumption) (by assumption)); clear kp' ob' fr'; (try k_sweep)))
local macro_rules | `(tactic| walk_at "subscriptTail Name Name ref str") => `(tactic| (k_here; refine stop ?_))
local macro_rules | `(tactic| walk_at "getMethod ref") => `(tactic| (
  (with_reducible show wpAny _ _ (getMethod (Value.ref _) "freeze" _) _ _ _);
  first
  | ((refine' meth_freeze ?X ?B ?p ?_); (case X => k_in); (case B => exact bears_of (by assumption) (by walk_at "my tail")); (case p => assumption))
  | ((refine' fold_freeze ?X ?a ?b (.inl rfl) ?_); (case X => k_in); (case a => exact News.get (by assumption) (.tail _ (.head _))); (case b => exact News.get (by assumption) (.tail _ (.tail _ (.head _)))))))
local macro_rules | `(tactic| walk_at "call ref") => `(tactic| (
  (with_reducible show wpAny _ _ (PySem.call (Value.ref 62) [Value.ref _]) _ _ _); k_here; refine stop ?_))
local macro_rules | `(tactic| walk_at "call builtin:len") => `(tactic| (
  (with_reducible show wpAny _ _ (PySem.call (Value.builtin "len") [Value.ref _]) _ _ _);
  first
  | ((refine' do_len ?X ?W ?B ?p ?_); (case X => k_in); (case W => assumption); (case B => exact bears_of (by assumption) (by walk_at "my tail")); (case p => assumption); intro _ _)
  | ((refine' loose_len ?X ?a ?b ?p ?_); (case X => k_in); (case a => exact News.get (by assumption) (.tail _ (.head _))); (case b => exact News.get (by assumption) (.tail _ (.tail _ (.head _)))); (case p => assumption); intro _ _)))
theorem deed_ct : ∀ {w : World} {dp un : Nat} {fr : Option (List Env)} {gd : Option (List Code)} {s : Shared} {Q E : Value → Shared → Prop} {S : TS} {icy : List Path} {ns : List Str} {k : Nat} {t t2 : Tok}
   {p loose mean mg mb} {g : Heap}
   (X : (K2 w.params).In g) (TT : Top p loose mean mg mb g) (T : TopRead p loose mg mb g) (CH : CodeHd g 61 57) (U : Under g s.heap (S.objs w ((mg "__name__").getD .none))) (W : WF S) (hdp : dp + 200 < 1000) (hu : un + 1600 < 9900)
   (hfz : ∀ q, S.On q → ((S.loc q).fz.isSome = true ↔ q ∈ icy)) (hns : NamesOk ns) (hlen : ns.length ≤ 60) (hpl : (pathR sl ns).length ≤ 1000) (hk5 : k < 5) (hso : ∀ y ∈ ns, PyData.strOk y = true) (hkl : ∀ q ∈ S.kept, (pathR sl q).length ≤ 1000) (hk9 : S.kept.length ≤ 900) (hic : ∀ q ∈ icy, S.On q)
   (hQ : ∀ v R S' h' tk, Under g h' (S'.objs w ((mg "__name__").getD .none) ++ R) → WF S' → DatIn R v (dueS 61 S.kept icy k ns).1 → S'.kept = (dueS 61 S.kept icy k ns).2.1 → (∀ q, S'.On q → ((S'.loc q).fz.isSome = true ↔ q ∈ (dueS 61 S.kept icy k ns).2.2)) → (S'.loc []).x = (S.loc []).x → Q v { s with heap := h', toks := tk })
   , wpAny (model PySem.Challenge.rw_il0142_02.row.prog w) (Ar dp un fr gd) (call (.ref 226) [.ref (S.loc []).x, .int k t, .str (pathR sl ns) t2]) Q E s := by
  k_fill
  intro w dp un fr gd s Q E S icy ns k t t2 p loose mean mg mb g X TT T CH U W hdp hu hfz hns hlen hpl hk5 hso hkl hk9 hic hQ
  refine' enterG [(Str.ofString "top", .ref (S.loc []).x), (Str.ofString "kind", .int k t), (Str.ofString "place", .str (pathR sl ns) t2)] ?X ?T ?U ?ho ?hcd ?hroom ?hbind ?hloc ?_ ?hco ?hgen ?hk ?hcell
  case U => assumption
  walk_at "my enter"
  k_steps
  · unfold Stop
    rename_i nm us uq _ _ _ hus _ hul _ _ hk3 _ F N
    have hk3' : k = 3 := by omega
    have hd : dueS 61 S.kept icy k ns = (.int ((List.range' 1 ns.length).countP fun j => decide (ns.take j ∈ S.kept) : Nat), S.kept, icy) := by
      unfold dueS; rw [if_pos hk3']
    rw [hd] at hQ
    refine while_st (σ := Nat × Tok) (fun _ => (nm, listOf us.toArray uq) :: S.objs w _) (fun c => [(Str.ofString "far", .int (c.1 : Nat) c.2), (Str.ofString "names", .ref nm), (Str.ofString "top", .ref (S.loc []).x)])
      (fun c => S.On (ns.take c.1) ∧ c.1 ≤ ns.length) (fun c => ns.length - c.1) (0, _) F N (Sub.of_mem fun p hp => hp) ⟨rfl, rfl, rfl, trivial⟩ ⟨.nil, Nat.zero_le _⟩ ?_
    rintro ⟨far, ft⟩ h tk u ⟨hon, hfl⟩ F' N'
    dsimp only [chain] at F' N' hon hfl ⊢
    clear F N
    by_cases hlt : far < ns.length
    · by_cases hon2 : S.On (ns.take (far + 1))
      · k_steps
        refine WEnd.intro (far + 1, _) (by assumption) (by assumption) (Sub.of_mem (by walk_at "my tail")) ⟨rfl, rfl, rfl, trivial⟩ ⟨hon2, hlt⟩ ?_
        show ns.length - (far + 1) < ns.length - far
        omega
      · k_steps
        rw [count_far W hon hfl (.inr hon2)] at hQ
        rename Fr _ _ _ _ => F3
        rename News _ _ _ _ => N3
        exact hQ _ [] S _ _ (by rw [List.append_nil]; exact fr_under F3 N3 (by walk_at "my tail")) W (.int _ _) rfl hfz rfl
    · k_steps
      rw [count_far W hon hfl (.inl (by omega))] at hQ
      rename Fr _ _ _ _ => F3
      rename News _ _ _ _ => N3
      exact hQ _ [] S _ _ (by rw [List.append_nil]; exact fr_under F3 N3 (by walk_at "my tail")) W (.int _ _) rfl hfz rfl
  · rename_i nm us uq _ _ _ hus _ hul _ _ _ _ hk4 DI _ F N l1
    have hk4' : k = 4 := by omega
    have hui : StrsAre us.dropLast ns.dropLast := strsAre_init hus
    have hnone : ns ∉ S.kept → dueS 61 S.kept icy k ns = (.none, S.kept, icy) := fun h => by
      unfold dueS; rw [if_neg (by omega), if_pos hk4', if_neg h]
    by_cases hns0 : ns = []
    · have hon : S.On ns.dropLast := by rw [hns0]; exact .nil
      rw [hnone (fun h => (W.ok _ h).1 hns0)] at hQ
      k_steps
      rename Fr _ _ _ _ => F3
      rename News _ _ _ _ => N3
      exact hQ _ [] S _ _ (by rw [List.append_nil]; exact fr_under F3 N3 (by walk_at "my tail")) W .none rfl hfz rfl
    · obtain ⟨n0, y, rfl⟩ := (lsnoc ns).resolve_left hns0
      obtain ⟨us0, v1, rfl⟩ : ∃ a b, us = a ++ [b] := by
        refine (lsnoc us).resolve_left fun e => ?_
        rw [e] at hul; simp at hul
      obtain ⟨zs, y1, t1, rfl, e1, _⟩ := strsAre_unsnoc hus
      obtain ⟨rfl, rfl⟩ : n0 = zs ∧ y = y1 := by
        have := List.append_inj' e1 rfl
        exact ⟨this.1, by simpa using this.2⟩
      rw [List.dropLast_concat, List.dropLast_concat] at hui
      rw [List.dropLast_concat] at N
      by_cases hon : S.On n0
      · by_cases hin : n0 ++ [y] ∈ S.kept
        · have hd61 : ∀ q ∈ S.kept, q.length < (n0 ++ [y]).length + 61 := fun q hq => by have := (W.ok q hq).2.2; omega
          have hdue : dueS 61 S.kept icy k (n0 ++ [y]) = (.list ((belowS 61 S.kept (n0 ++ [y])).map fun q => .str (pathR sl q)), S.kept.filter (notUnder (n0 ++ [y])), icy.filter (notUnder (n0 ++ [y]))) := by
            unfold dueS; rw [if_neg (by omega), if_pos hk4', if_pos hin]
          rw [hdue] at hQ
          k_steps
          rename Fr _ _ _ _ => F3
          rename News _ _ _ _ => N3
          refine hQ _ [_] (S.cut n0 y) _ _ (fr_under_hd F3 N3) (cut_wf W) (.list (.head _) (datAll_strs _ (by assumption))) rfl (fun q hq => ?_) cut_x.1
          rw [cut_x.2.2.2, List.mem_filter]
          have := cut_on.mp hq
          rw [hfz q this.1]
          simp [notUnder, this.2]
        · rw [hnone hin] at hQ
          k_steps
          rename Fr _ _ _ _ => F3
          rename News _ _ _ _ => N3
          exact hQ _ [] S _ _ (by rw [List.append_nil]; exact fr_under F3 N3 (by walk_at "my tail")) W .none rfl hfz rfl
      · rw [hnone (fun h => hon (by have := W.clo _ h; rwa [List.dropLast_concat] at this))] at hQ
        k_steps
        rename Fr _ _ _ _ => F3
        rename News _ _ _ _ => N3
        exact hQ _ [] S _ _ (by rw [List.append_nil]; exact fr_under F3 N3 (by walk_at "my tail")) W .none rfl hfz rfl
  · unfold Stop
    rename_i nm us uq _ _ _ hus _ hul _ _ hk3 _ hk4 _ F N
    have hko := kept_ok W hkl
    refine for_list2 (σ := (TS × Option (Addr × Addr)) × Addr) (fun c => LedW w ((mg "__name__").getD .none) nm us uq c.1) (fun c => [(Str.ofString "come", .ref c.2), (Str.ofString "names", .ref nm), (Str.ofString "top", .ref (S.loc []).x), (Str.ofString "kind", .int k t)])
      (fun i c => WayOk S icy ns w ((mg "__name__").getD .none) i c.1 ∧ c.2 = comeAt c.1 (ns.take i)) ((S, none), (S.loc []).x) rfl (.inl fun c => List.mem_append_right _ (.head _)) F N (Sub.of_mem fun e he => ?_) ⟨rfl, rfl, rfl, rfl, trivial⟩ ⟨⟨W, rfl, rfl, fun _ => .nil, hfz, rfl, (fun z e => nomatch e), (fun e => nomatch e)⟩, rfl⟩ ?_ ?_
    · unfold LedW at he
      rcases List.mem_append.mp he with he | he
      · rcases List.mem_append.mp he with he | he
        · exact .tail _ he
        · exact nomatch he
      · rw [List.mem_singleton.mp he]; exact .head _
    · intro i v c h tk I it u hv hP F' N' hcl hne
      obtain ⟨y, ty, rfl, hy⟩ := strsAre_get hus hv
      obtain ⟨c, a⟩ := c
      obtain ⟨hW, ha⟩ := hP
      dsimp only [chain] at F' N' hne hW ha
      subst ha
      clear F N
      k_steps
      unfold Stop
      rename Fr _ _ _ _ => F3
      rename News _ _ _ _ => N3
      refine way_tail X T F3 N3 hne hW hy hns hlen hpl hko hk9 hic (by walk_at "my room") (by walk_at "my room") (by with_unfolding_all rfl) (fun c' h' tk W' F4 N4 O4 => ?_)
      clear F3 N3
      k_steps
      refine TEnd2.intro (c', comeAt c' (ns.take (i + 1))) (by assumption) (by assumption) (Sub.of_mem fun e he => .tail _ he) (.head _) O4 ⟨rfl, rfl, rfl, rfl, trivial⟩ ⟨W', rfl⟩
    · intro c h tk u hP F' N'
      obtain ⟨⟨S1, z⟩, a⟩ := c
      obtain ⟨hW, ha⟩ := hP
      dsimp only [chain] at F' N' hW ha
      rw [hul] at hW ha
      obtain ⟨W1, hkept, hflag, hon, hfz1, htop, hbig, hoff⟩ := hW
      dsimp only at W1 hkept hflag hon hfz1 htop hbig hoff
      rw [List.take_length] at ha hkept hflag hon
      subst ha
      dsimp only [comeAt, LedW] at F' N'
      clear F N
      cases z with
      | none =>
        have ho : S1.On ns := hon rfl
        have hd : dueS 61 S.kept icy k ns = (.tuple [.bool true, .int ((kidsAt S1.kept ns).length : Nat)], S1.kept, if k = 2 ∧ ns ∉ icy then icy ++ [ns] else icy) := by
          unfold dueS; rw [if_neg (by omega), if_neg (by omega)]; dsimp only; rw [if_neg (by rw [hflag]; exact fun e => nomatch e), hkept]
        rw [hd] at hQ
        clear hd
        rw [List.append_nil] at N'
        have N1 := News.rot N'
        clear N'
        dsimp only at F'
        rw [← htop] at F'
        k_steps
        · have hk2' : k = 2 := by omega
          rename Fr _ _ _ _ => F3
          rename News _ _ _ _ => N3
          refine tree_freezeF X TT CH F3 (News.rot1 N3) (fun r hr => by rw [List.mem_singleton.mp hr]; exact tree_list W1 (News.rot1 N3) (News.get N3 (.head _))) W1 (by walk_at "my room") (by walk_at "my room") ho (fun z code h' tk hc hz F4 N4 => ?_)
          have W2 := ice_wf W1 ho hz hc
          have e0 : ((S1.ice ns z code).loc []).x = (S1.loc []).x := ice_x.1
          have e1 : ((S1.ice ns z code).loc ns).x = (S1.loc ns).x := ice_x.1
          have e2 : (S1.ice ns z code).kept = S1.kept := rfl
          have e3 : ∀ q, (S1.ice ns z code).On q → (((S1.ice ns z code).loc q).fz.isSome = true ↔ q ∈ if k = 2 ∧ ns ∉ icy then icy ++ [ns] else icy) := fun q hq => by
            by_cases hqn : q = ns
            · subst hqn
              rw [ice_p]
              by_cases h : q ∈ icy
              · rw [if_neg (fun e => e.2 h)]; simp [h]
              · rw [if_pos ⟨hk2', h⟩]; simp
            · rw [ice_old hqn, hfz1 q hq]
              by_cases h : ns ∈ icy
              · rw [if_neg (fun e => e.2 h)]
              · rw [if_pos ⟨hk2', h⟩]; simp [hqn]
          have ho2 : (S1.ice ns z code).On ns := ho
          rw [← e0, ← e1] at F4
          have ht2 := e0.trans htop
          have N5 := News.rot N4
          rw [← e2] at hQ
          clear F3 N3 N4 hz hc e0 e1 e2
          generalize S1.ice ns z code = S2 at *
          k_steps
          rename Fr _ _ _ _ => F3
          rename News _ _ _ _ => N3
          exact hQ _ [_] S2 _ _ (fr_under_hd F3 (News.drop1 N3)) W2 (.tuple (vs := [_, _]) (.head _) (.cons (.bool _) (.cons (.int _ _) .nil))) rfl e3 ht2
        · rename Fr _ _ _ _ => F3
          rename News _ _ _ _ => N3
          have hk2' : ¬ k = 2 := by omega
          exact hQ _ [_] S1 _ _ (fr_under_hd F3 (News.drop1 N3)) W1 (.tuple (vs := [_, _]) (.head _) (.cons (.bool _) (.cons (.int _ _) .nil))) rfl (by dsimp only; rw [if_neg (fun e => hk2' e.1)]; exact hfz1) htop
      | some z =>
        have hof : ¬ S1.On ns := hoff rfl
        have hd : dueS 61 S.kept icy k ns = (.tuple [.bool false, .int 0], S1.kept, icy) := by
          unfold dueS; rw [if_neg (by omega), if_neg (by omega)]; dsimp only; rw [if_pos (show _ = true from hflag), hkept]
        rw [hd] at hQ
        clear hd
        obtain ⟨y0, dy0⟩ := z
        obtain ⟨hb0, hne0, hap0⟩ := hbig _ rfl
        dsimp only [Mine.loose] at F' N' hb0 hne0 hap0
        have N1 := News.rot3 N'
        clear N'
        rw [← htop] at F'
        k_steps
        · rename Fr _ _ _ _ => F3
          rename News _ _ _ _ => N3
          have N31 := News.rot31 N3
          refine loose_freezeF (y := y0) (dy := dy0) (n := 0) X TT CH F3 N31 (fun r hr q hq => ?_) W1 (by walk_at "my room") (by walk_at "my room") hne0 hap0 (fun code tk0 lam h' tk hc F4 N4 => ?_)
          · rw [List.mem_singleton.mp hr]
            rcases List.mem_append.mp hq with hq | hq
            · exact tree_list (rest := [(y0, foldObj w 65 dy0 191 [] 0), (dy0, bag0)] ++ [(nm, PySem.W.listOf us.toArray uq)]) W1 (by rw [← List.append_assoc]; exact N31) (News.get N3 (.head _)) q hq
            · intro e
              have h1 := (N31 q (List.mem_append_left _ (List.mem_append_right _ hq))).1
              rw [show q.1 = nm from e, News.get N3 (.head _)] at h1
              simp only [Mine.loose, List.mem_cons, List.not_mem_nil, or_false] at hq
              rcases hq with rfl | rfl
              · cases h1
              · exact absurd (congrArg Obj.cls (Option.some.inj h1)) (show ¬ Value.type "list" = Value.type "dict" by decide)
          have W2 := mint_wf W1 hc
          have e0 : ((S1.mint code).loc []).x = (S1.loc []).x := rfl
          have e2 : (S1.mint code).kept = S1.kept := rfl
          have e3 : ∀ q, (S1.mint code).On q → (((S1.mint code).loc q).fz.isSome = true ↔ q ∈ icy) := hfz1
          have ho2 : ¬ (S1.mint code).On ns := hof
          rw [← e0] at F4
          have ht2 := e0.trans htop
          dsimp only [Mine.loose] at N4
          have N5 := News.rot3 N4
          rw [← e2] at hQ
          clear F3 N3 N4 N31 hc e0 e2
          generalize S1.mint code = S2 at *
          k_steps
          rename Fr _ _ _ _ => F3
          rename News _ _ _ _ => N3
          exact hQ _ [_] S2 _ _ (fr_under_hd F3 (News.drop1 (News.drop1 (News.drop1 N3)))) W2 (.tuple (vs := [_, _]) (.head _) (.cons (.bool _) (.cons (.int _ _) .nil))) rfl e3 ht2
        · rename Fr _ _ _ _ => F3
          rename News _ _ _ _ => N3
          exact hQ _ [_] S1 _ _ (fr_under_hd F3 (News.drop1 (News.drop1 (News.drop1 N3)))) W1 (.tuple (vs := [_, _]) (.head _) (.cons (.bool _) (.cons (.int _ _) .nil))) rfl hfz1 htop
end
section

local macro_rules | `(tactic| walk_at "subscriptTail") => `(tactic| (
  (with_reducible show wpAny _ _ (subscriptTail _ _ (Value.ref _) (Value.int _ _)) _ _ _);
  (refine' KTb.item_list ?a ?b ?c ?d ?e ?_); (case a => exact News.isList (by assumption) (by k_mem)); (case b => assumption); (case c => omega); (case d => simp only [List.length_cons, List.length_nil]; omega); (case e => omega); (intro t' lt')))
noncomputable def digs : Nat → Nat → List Nat
  | 0, _ => []
  | k + 1, n => if n = 0 then [] else (n % 8) :: digs k (n / 8)
noncomputable abbrev w2 : List Str := [Str.ofString "a", Str.ofString "b", Str.ofString "..", Str.ofString "/", Str.ofString "/a", Str.ofString "../..", Str.ofString "./b", Str.ofString ""]
noncomputable def stepsS (n : Nat) : List Str := (digs 5 n).map fun d => w2.getD d Str.empty
theorem steps_ct : ∀ {w : World} {dp un : Nat} {fr : Option (List Env)} {gd : Option (List Code)} {s : Shared} {Q E : Value → Shared → Prop} {n : Nat} {t : Tok}
   {p loose mg mb} 
   (X : (K2 w.params).In s.heap) (T : TopRead p loose mg mb s.heap) (hdp : dp + 8 < 1000) (hu : un + 60 < 9900)
   (hn : n < 4096)
   (hQ : ∀ a vs nn h' tk, Keeps s.heap h' → s.heap.get? a = none → h'.get? a = some (listOf (vs : List Value).toArray nn) → StrsAre vs (stepsS n) → Q (.ref a) { s with heap := h', toks := tk })
   , wpAny (model PySem.Challenge.rw_il0142_02.row.prog w) (Ar dp un fr gd) (call (.ref 198) [.int n t]) Q E s := by
  k_fill
  intro w dp un fr gd s Q E n t p loose mg mb X T hdp hu hn hQ
  refine' enter [(Str.ofString "count", .int n t)] ?X ?T ?ho ?hcd ?hroom ?hbind ?hloc ?_ ?hco ?hgen ?hk ?hcell
  walk_at "my enter"
  k_steps
  unfold Stop
  rename_i WD _ _ _ _ ST _ l1 _ F N
  obtain ⟨ws, hws, N2⟩ : ∃ ws : List Value, StrsAre ws w2 ∧ News s.heap _ _ [(ST, W.listOf #[] 0), (WD, W.listOf ws.toArray 0)] := ⟨_, by repeat constructor, N⟩
  clear N
  refine while_st (σ := Nat × Nat × Tok × List Value × Nat) (fun c => [(ST, W.listOf c.2.2.2.1.toArray c.2.2.2.2), (WD, W.listOf ws.toArray 0)])
    (fun c => [(Str.ofString "count", .int (c.2.1 : Nat) c.2.2.1), (Str.ofString "steps", .ref ST), (Str.ofString "words", .ref WD)])
    (fun c => ∃ acc, StrsAre c.2.2.2.1 acc ∧ acc ++ (digs c.1 c.2.1).map (fun d => w2.getD d Str.empty) = stepsS n ∧ c.2.1 < 8 ^ c.1 ∧ acc.length + c.1 = 5) (fun c => c.2.1)
    (5, n, t, [], 0) F N2 ⟨.head _, .tail _ (.head _), trivial⟩ ⟨rfl, rfl, rfl, trivial⟩ ⟨[], .nil, rfl, by show n < 8 ^ 5; omega, rfl⟩ ?_
  rintro ⟨k, cur, t1, vs, nn⟩ h tk u ⟨acc, ha, he, hlt, hl5⟩ F' N'
  dsimp only [chain] at F' N' ha he hlt hl5 ⊢
  k_steps
  by_cases hc : 0 < cur
  · have hf1 : (cur : Int).fmod 8 = ((cur % 8 : Nat) : Int) := by rw [Int.fmod_eq_emod_of_nonneg _ (by omega)]; omega
    have hf2 : (cur : Int).fdiv 8 = ((cur / 8 : Nat) : Int) := by rw [Int.fdiv_eq_ediv_of_nonneg _ (by omega)]; omega
    have hvl := strsAre_len ha
    refine WhlIf.yes (by simp [hc]) ?_
    k_steps
    rw [hf2, hf1] at *
    simp only [Int.toNat_natCast, List.push_toArray] at *
    cases k with
    | zero => exfalso; simp at hlt; omega
    | succ k =>
      refine WEnd.intro (k, cur / 8, _, _, _) (by assumption) (by assumption) ⟨by k_mem, by k_mem, trivial⟩ ⟨rfl, rfl, rfl, trivial⟩ ⟨acc ++ [w2.getD (cur % 8) Str.empty], strsAre_snoc ha _ _, ?_, ?_, ?_⟩ ?_
      · rw [← he]
        show acc ++ [_] ++ List.map _ (digs k (cur / 8)) = acc ++ List.map _ (digs (k + 1) cur)
        rw [digs, if_neg (by omega)]
        simp
      · show cur / 8 < 8 ^ k
        rw [Nat.pow_succ] at hlt; omega
      · simp only [List.length_append, List.length_cons, List.length_nil]; omega
      · show cur / 8 < cur; omega
  · have h0 : cur = 0 := by omega
    subst h0
    have hd : digs k 0 = [] := by cases k <;> rfl
    rw [hd] at he
    have he : acc = stepsS n := by rw [← he]; simp
    rw [he] at ha
    refine WhlIf.no (by simp [hc]) ?_
    k_steps
    exact hQ _ _ _ _ _ (Fr.keep (by assumption)) (News.fresh (by assumption) (.head _)) (News.get (by assumption) (.head _)) ha
end
section
set_option maxHeartbeats 800000
noncomputable abbrev sa : Str := Str.ofString "a"
noncomputable abbrev sb : Str := Str.ofString "b"
/-- all names are one of two -/
noncomputable abbrev AB (ns : List Str) : Prop := ∀ n ∈ ns, n = sa ∨ n = sb
theorem c_sa : C sa = [97] := by decide +kernel
theorem c_sb : C sb = [98] := by decide +kernel
theorem ab_ok {ns : List Str} (h : AB ns) : NamesOk ns := fun n hn => by
  rcases h n hn with rfl | rfl
  · exact ⟨by rw [c_sa]; simp, by rw [c_sa]; decide, by decide +kernel, by decide +kernel⟩
  · exact ⟨by rw [c_sb]; simp, by rw [c_sb]; decide, by decide +kernel, by decide +kernel⟩
theorem ab_joinL : ∀ {ns : List Str}, AB ns → (joinL (ns.map C)).length ≤ 2 * ns.length ∧ ∀ c ∈ joinL (ns.map C), c = 47 ∨ c = 97 ∨ c = 98
  | [], _ => ⟨by simp [joinL], by simp [joinL]⟩
  | [n], h => by
    rcases h n (.head _) with rfl | rfl
    · simp [joinL, c_sa]
    · simp [joinL, c_sb]
  | n :: m :: r, h => by
    obtain ⟨h1, h2⟩ := ab_joinL (ns := m :: r) (fun x hx => h x (.tail _ hx))
    have e : joinL ((n :: m :: r).map C) = C n ++ 47 :: joinL ((m :: r).map C) := rfl
    rw [e]
    have hn : (C n).length = 1 ∧ ∀ c ∈ C n, c = 97 ∨ c = 98 := by
      rcases h n (.head _) with rfl | rfl
      · simp [c_sa]
      · simp [c_sb]
    refine ⟨?_, fun c hc => ?_⟩
    · rw [List.length_append, List.length_cons, hn.1]
      simp only [List.length_cons] at h1 ⊢
      omega
    · rcases List.mem_append.mp hc with hc | hc
      · exact .inr (hn.2 c hc)
      · rcases List.mem_cons.mp hc with hc | hc
        · exact .inl hc
        · exact h2 c hc
theorem ab_len {ns : List Str} (h : AB ns) : (pathR sl ns).length ≤ 2 * ns.length + 1 := by
  rw [← C_len, C_path, List.length_append, C_sl]
  have := (ab_joinL h).1
  simp only [List.length_cons, List.length_nil]
  omega
theorem strOk_C {x : Str} (h : ∀ c ∈ C x, c < 0x110000) : PyData.strOk x = true := by
  unfold PyData.strOk
  rw [Array.all_eq_true']
  intro c hc
  exact decide_eq_true (h c (by simpa [C] using hc))
theorem ab_strOk {ns : List Str} (h : AB ns) : PyData.strOk (pathR sl ns) = true := by
  refine strOk_C fun c hc => ?_
  rw [C_path, C_sl] at hc
  rcases List.mem_append.mp hc with hc | hc
  · rw [List.mem_singleton.mp hc]; decide
  · rcases (ab_joinL h).2 c hc with rfl | rfl | rfl <;> decide
theorem ab_strOk1 {ns : List Str} (h : AB ns) : ∀ y ∈ ns, PyData.strOk y = true := fun y hy => by
  rcases h y hy with rfl | rfl
  · exact strOk_C (by rw [c_sa]; decide)
  · exact strOk_C (by rw [c_sb]; decide)
theorem ab_take {ns : List Str} (h : AB ns) (j : Nat) : AB (ns.take j) := fun n hn => h n (List.mem_of_mem_take hn)
theorem ab_drop {ns : List Str} (h : AB ns) : AB ns.dropLast := fun n hn => h n ((List.dropLast_sublist ns).mem hn)
theorem ab_snoc {ns : List Str} (h : AB ns) {n : Str} (hn : n = sa ∨ n = sb) : AB (ns ++ [n]) := fun m hm => by
  rcases List.mem_append.mp hm with hm | hm
  · exact h m hm
  · rw [List.mem_singleton.mp hm]; exact hn
theorem ws_a (cs : List Str) : wordStep cs sa = cs ++ [sa] := by unfold wordStep; rw [if_neg (by decide +kernel), if_neg (by decide +kernel)]
theorem ws_b (cs : List Str) : wordStep cs sb = cs ++ [sb] := by unfold wordStep; rw [if_neg (by decide +kernel), if_neg (by decide +kernel)]
theorem ws_e (cs : List Str) : wordStep cs (Str.ofString "") = cs := by unfold wordStep; rw [if_neg (by decide +kernel), if_pos (by decide +kernel)]
theorem ws_d (cs : List Str) : wordStep cs dot = cs := by unfold wordStep; rw [if_neg (by decide +kernel), if_pos (by decide +kernel)]
theorem ws_dd (cs : List Str) : wordStep cs dd = cs.dropLast := by unfold wordStep; rw [if_pos (by decide +kernel)]
theorem lawStep_of {b : Str} {ws : List Str} {r : Bool} (h1 : Txt.split b sl = ws) (h2 : (Txt.slice b none (some 1) == sl) = r) (ns : List Str) : lawStep ns b = ws.foldl wordStep (if r = true then [] else ns) := by
  unfold lawStep; rw [h1, h2]
theorem lawStep_w2 {ns : List Str} (h : AB ns) {b : Str} (hb : b ∈ w2) : AB (lawStep ns b) ∧ (lawStep ns b).length ≤ ns.length + 1 := by
  simp only [w2, List.mem_cons, List.not_mem_nil, or_false] at hb
  have h0 : AB ([] : List Str) := fun n hn => absurd hn (by simp)
  rcases hb with rfl | rfl | rfl | rfl | rfl | rfl | rfl | rfl
  · rw [lawStep_of (ws := [sa]) (r := false) (by decide +kernel) (by decide +kernel)]
    simp only [List.foldl_cons, List.foldl_nil, Bool.false_eq_true, if_false, ws_a]
    exact ⟨ab_snoc h (.inl rfl), by simp⟩
  · rw [lawStep_of (ws := [sb]) (r := false) (by decide +kernel) (by decide +kernel)]
    simp only [List.foldl_cons, List.foldl_nil, Bool.false_eq_true, if_false, ws_b]
    exact ⟨ab_snoc h (.inr rfl), by simp⟩
  · rw [lawStep_of (ws := [dd]) (r := false) (by decide +kernel) (by decide +kernel)]
    simp only [List.foldl_cons, List.foldl_nil, Bool.false_eq_true, if_false, ws_dd]
    exact ⟨ab_drop h, by simp; omega⟩
  · rw [lawStep_of (ws := [Str.ofString "", Str.ofString ""]) (r := true) (by decide +kernel) (by decide +kernel)]
    simp only [List.foldl_cons, List.foldl_nil, if_true, ws_e]
    exact ⟨h0, by simp⟩
  · rw [lawStep_of (ws := [Str.ofString "", sa]) (r := true) (by decide +kernel) (by decide +kernel)]
    simp only [List.foldl_cons, List.foldl_nil, if_true, ws_e, ws_a]
    exact ⟨ab_snoc h0 (.inl rfl), by simp⟩
  · rw [lawStep_of (ws := [dd, dd]) (r := false) (by decide +kernel) (by decide +kernel)]
    simp only [List.foldl_cons, List.foldl_nil, Bool.false_eq_true, if_false, ws_dd]
    exact ⟨ab_drop (ab_drop h), by simp; omega⟩
  · rw [lawStep_of (ws := [dot, sb]) (r := false) (by decide +kernel) (by decide +kernel)]
    simp only [List.foldl_cons, List.foldl_nil, Bool.false_eq_true, if_false, ws_d, ws_b]
    exact ⟨ab_snoc h (.inr rfl), by simp⟩
  · rw [lawStep_of (ws := [Str.ofString ""]) (r := false) (by decide +kernel) (by decide +kernel)]
    simp only [List.foldl_cons, List.foldl_nil, Bool.false_eq_true, if_false, ws_e]
    exact ⟨h, by simp⟩
theorem lawSteps_w2 : ∀ (bs : List Str) {ns : List Str}, AB ns → (∀ b ∈ bs, b ∈ w2) → AB (bs.foldl lawStep ns) ∧ (bs.foldl lawStep ns).length ≤ ns.length + bs.length
  | [], ns, h, _ => ⟨h, by simp⟩
  | b :: r, ns, h, hb => by
    obtain ⟨h1, h2⟩ := lawStep_w2 h (hb b (.head _))
    obtain ⟨h3, h4⟩ := lawSteps_w2 r h1 fun x hx => hb x (.tail _ hx)
    rw [List.foldl_cons]
    exact ⟨h3, by rw [List.length_cons]; omega⟩
theorem w2_len {b : Str} (hb : b ∈ w2) : b.length ≤ 5 := by
  simp only [w2, List.mem_cons, List.not_mem_nil, or_false] at hb
  rcases hb with rfl | rfl | rfl | rfl | rfl | rfl | rfl | rfl <;> decide +kernel
theorem w2_sum : ∀ (bs : List Str), (∀ b ∈ bs, b ∈ w2) → (bs.map fun y => y.length + 1).sum ≤ 6 * bs.length
  | [], _ => by simp
  | b :: r, h => by
    have h1 := w2_len (h b (.head _))
    have h2 := w2_sum r fun x hx => h x (.tail _ hx)
    simp only [List.map_cons, List.sum_cons, List.length_cons]
    omega
theorem digs_lt : ∀ (k n : Nat), ∀ d ∈ digs k n, d < 8
  | 0, _, d, hd => absurd hd (by simp [digs])
  | k + 1, n, d, hd => by
    unfold digs at hd
    split at hd
    · exact absurd hd (by simp)
    · rcases List.mem_cons.mp hd with rfl | hd
      · omega
      · exact digs_lt k _ d hd
theorem digs_len : ∀ (k j n : Nat), n < 8 ^ j → (digs k n).length ≤ j
  | 0, _, _, _ => by simp [digs]
  | k + 1, j, n, h => by
    unfold digs
    split
    · simp
    · cases j with
      | zero => simp at h; omega
      | succ j =>
        have := digs_len k j (n / 8) (by rw [Nat.div_lt_iff_lt_mul (by decide), ← Nat.pow_succ]; exact h)
        simp only [List.length_cons]; omega
theorem steps_w2 (n : Nat) : ∀ b ∈ stepsS n, b ∈ w2 := fun b hb => by
  unfold stepsS at hb
  obtain ⟨d, hd, rfl⟩ := List.mem_map.mp hb
  have h8 := digs_lt 5 n d hd
  have hl : d < w2.length := h8
  rw [List.getD_eq_getElem?_getD, List.getElem?_eq_getElem hl]
  exact List.getElem_mem hl
theorem steps_len {n : Nat} (h : n < 512) : (stepsS n).length ≤ 3 := by
  unfold stepsS
  rw [List.length_map]
  exact digs_len 5 3 n h
theorem root_w2 {p b : Str} (hp : (C p).head? = some 47) (hr : rootOf p = sl) (hb : b ∈ w2) : rootOf (joinStep p b) = sl := by
  by_cases h : (C b).head? = some 47
  · rw [joinStep_abs ((starts_iff b).mpr h)]
    simp only [w2, List.mem_cons, List.not_mem_nil, or_false] at hb
    have no : ∀ {x : Str} {l : List Nat}, C x = l → l.head? ≠ some 47 → ¬ (C x).head? = some 47 := fun e hn => by rw [e]; exact hn
    rcases hb with rfl | rfl | rfl | rfl | rfl | rfl | rfl | rfl
    · exact absurd h (by decide +kernel)
    · exact absurd h (by decide +kernel)
    · exact absurd h (by decide +kernel)
    · exact rootOf_sl
    · unfold rootOf
      rw [if_neg]
      rintro ⟨r, hr, _⟩
      rw [show C (Str.ofString "/a") = [47, 97] by decide +kernel] at hr; cases hr
    · exact absurd h (by decide +kernel)
    · exact absurd h (by decide +kernel)
    · exact absurd h (by decide +kernel)
  · rw [root_join hp h]; exact hr
theorem roots_w2 : ∀ (bs : List Str) {p : Str}, (C p).head? = some 47 → rootOf p = sl → (∀ b ∈ bs, b ∈ w2) → rootOf (bs.foldl joinStep p) = sl
  | [], _, _, h, _ => h
  | b :: r, p, hp, h, hb => roots_w2 r (joinStep_head hp) (root_w2 hp h (hb b (.head _))) fun x hx => hb x (.tail _ hx)
theorem path_head (ns : List Str) : (C (pathR sl ns)).head? = some 47 := by rw [C_path, C_sl]; rfl
theorem path_root {ns : List Str} (h : NamesOk ns) : rootOf (pathR sl ns) = sl := by
  unfold rootOf
  rw [if_neg]
  rintro ⟨r, hr, _⟩
  rw [C_path, C_sl] at hr
  have hr : joinL (ns.map C) = 47 :: r := by simpa using hr
  cases ns with
  | nil => simp [joinL] at hr
  | cons n ms =>
    have hn := h n (.head _)
    have : (joinL ((n :: ms).map C)).head? = (C n).head? := by
      cases ms with
      | nil => rfl
      | cons m r =>
        show (C n ++ _).head? = _
        cases e : C n with
        | nil => exact absurd e hn.ne
        | cons a l => rfl
    rw [hr] at this
    cases e : C n with
    | nil => exact hn.ne e
    | cons a l => rw [e] at this; simp at this; exact hn.free (by rw [e, this]; exact .head _)
/-- where join and normpath lead -/
theorem spot_step {ns bs : List Str} (h : AB ns) (hb : ∀ b ∈ bs, b ∈ w2) : normS (bs.foldl joinStep (pathR sl ns)) = pathR sl (bs.foldl lawStep ns) ∧ (rootS (bs.foldl joinStep (pathR sl ns))).1.length ≠ 0 ∧ (bs.foldl joinStep (pathR sl ns)).length ≠ 0 := by
  have hn := ab_ok h
  have hp := path_head ns
  have hc := comps_path (r := sl) (.inl rfl) hn
  obtain ⟨h1, h2, h3⟩ := comps_steps bs (pathR sl ns) hp (by rw [hc]; exact hn)
  rw [hc] at h1
  have hr := roots_w2 bs hp (path_root hn) hb
  refine ⟨by rw [normS_path h3, hr, h1], ?_, ?_⟩
  · rw [(root_cases h3).1, hr]; show sl.length ≠ 0; decide +kernel
  · rw [← C_len]; intro e; rw [List.eq_nil_of_length_eq_zero e] at h3; cases h3
theorem goS_mem {icy kept : List Path} : ∀ (ns : List Str) (q : Path), q ∈ (goS icy kept ns).1 → q ∈ kept ∨ ∃ j, q = ns.take j := by
  intro ns
  have key : ∀ i, i ≤ ns.length → ∀ q, q ∈ (goS icy kept (ns.take i)).1 → q ∈ kept ∨ ∃ j, q = ns.take j := by
    intro i
    induction i with
    | zero => intro _ q hq; rw [List.take_zero] at hq; exact .inl hq
    | succ i ih =>
      intro hi q hq
      have e := goS_take icy kept ns (i := i) (n := ns[i]) (List.getElem?_eq_getElem hi)
      rw [e] at hq
      unfold goStep at hq
      rw [goS_p] at hq
      have ht : ns.take i ++ [ns[i]] = ns.take (i + 1) := by rw [List.take_add_one, List.getElem?_eq_getElem hi]; rfl
      rw [ht] at hq
      split at hq
      · exact ih (by omega) q hq
      · split at hq
        · exact ih (by omega) q hq
        · split at hq
          · exact ih (by omega) q hq
          · rcases List.mem_append.mp hq with hq | hq
            · exact ih (by omega) q hq
            · exact .inr ⟨i + 1, List.mem_singleton.mp hq⟩
  intro q hq
  have := key ns.length (Nat.le_refl _) q (by rw [List.take_length]; exact hq)
  exact this
theorem due_inv {kept icy : List Path} {k : Nat} {ns : Path} (hko : KeptOk kept) (hic : icy.Nodup ∧ ∀ q ∈ icy, q = [] ∨ q ∈ kept) (hn : NamesOk ns) (hl : (pathR sl ns).length ≤ 1000) :
    ((dueS 61 kept icy k ns).2.2.Nodup ∧ ∀ q ∈ (dueS 61 kept icy k ns).2.2, q = [] ∨ q ∈ (dueS 61 kept icy k ns).2.1) ∧ (dueS 61 kept icy k ns).2.1.length ≤ kept.length + ns.length ∧ ∀ q ∈ (dueS 61 kept icy k ns).2.1, q ∈ kept ∨ ∃ j, q = ns.take j := by
  unfold dueS
  split
  · exact ⟨hic, by simp, fun q hq => .inl hq⟩
  · split
    · split
      · refine ⟨⟨hic.1.filter _, fun q hq => ?_⟩, Nat.le_trans (List.length_filter_le _ _) (by omega), fun q hq => .inl (List.mem_filter.mp hq).1⟩
        obtain ⟨h1, h2⟩ := List.mem_filter.mp hq
        rcases hic.2 q h1 with h | h
        · exact .inl h
        · exact .inr (List.mem_filter.mpr ⟨h, h2⟩)
      · exact ⟨hic, by simp, fun q hq => .inl hq⟩
    · have hg := goS_ok (icy := icy) hko hn hl ns.length (Nat.le_refl _)
      rw [List.take_length] at hg
      have hsub : ∀ q ∈ icy, q = [] ∨ q ∈ (goS icy kept ns).1 := fun q hq => (hic.2 q hq).imp_right (hg.2.2.1 q)
      dsimp only
      split
      · exact ⟨⟨hic.1, hsub⟩, hg.2.2.2, goS_mem ns⟩
      · rename_i hflag
        refine ⟨?_, hg.2.2.2, goS_mem ns⟩
        split
        · rename_i hk
          refine ⟨?_, fun q hq => ?_⟩
          · rw [List.nodup_append]
            refine ⟨hic.1, by simp, fun a ha b hb => ?_⟩
            rw [List.mem_singleton.mp hb]; exact fun e => hk.2 (e ▸ ha)
          · rcases List.mem_append.mp hq with hq | hq
            · exact hsub q hq
            · rw [List.mem_singleton.mp hq]
              rcases hg.2.1 with h | h | h
              · exact .inl h
              · exact .inr h
              · exact absurd h hflag
        · exact ⟨hic.1, hsub⟩
end
section
open PyProof.V PySem.Spec
set_option maxHeartbeats 800000
/-- data with truth values in them -/
noncomputable def kb : Nat → Dat → Bool
  | _, .none => true
  | _, .bool _ => true
  | _, .int _ => true
  | _, .str x => PyData.strOk x
  | n + 1, .tuple ds => ds.all (kb n)
  | n + 1, .list ds => ds.all (kb n)
  | _, _ => false
section
variable {h₀ h : Heap} {L : Addr} {news : List (Addr × Obj)}
mutual
theorem kb_in (N : News h₀ L h news) : ∀ {v : Value} {d : Dat} (n : Nat), DatIn news v d → kb n d = true → ∃ as, Reads h v (kqdP d) as
  | _, _, _, .none, _ => ⟨_, Reads.none⟩
  | _, _, _, .bool b, _ => ⟨_, Reads.bool b⟩
  | _, _, _, .int i t, _ => ⟨_, Reads.int i t⟩
  | _, _, _, .str x t, _ => ⟨_, Reads.str x t⟩
  | _, _, n, .bytes _ _, hk => by cases n <;> simp [kb] at hk
  | _, _, 0, .tuple _ _, hk => by simp [kb] at hk
  | _, _, 0, .list _ _, hk => by simp [kb] at hk
  | _, _, n + 1, .tuple hm r, hk => by
    obtain ⟨as, q⟩ := kb_all N n r (by simpa [kb] using hk)
    rw [kqdP]
    exact ⟨as, reads_tuple_at (N.get hm) rfl rfl (by simpa using q)⟩
  | _, _, n + 1, .list hm r, hk => by
    obtain ⟨as, q⟩ := kb_all N n r (by simpa [kb] using hk)
    rw [kqdP]
    exact ⟨_, reads_list_at (N.get hm) rfl rfl (by simpa [PySem.W.listOf] using q)⟩
theorem kb_all (N : News h₀ L h news) : ∀ {vs : List Value} {ds : List Dat} (n : Nat), DatAll news vs ds → (∀ d ∈ ds, kb n d = true) → ∃ as, ReadsAll h vs (kqdPs ds) as
  | _, _, _, .nil, _ => ⟨_, ReadsAll.nil⟩
  | _, _, n, .cons hd r, hk => by
    obtain ⟨as, q⟩ := kb_in N n hd (hk _ (.head _))
    obtain ⟨bs, p⟩ := kb_all N n r fun d hm => hk d (.tail _ hm)
    rw [kqdPs]
    exact ⟨_, ReadsAll.cons q p⟩
end
end
theorem kb_lay : ∀ (n : Nat) (d : Dat), kb n d = true → ((kqdP d).canLay0 = true ∧ (kqdP d).depth ≤ n) ∧ PyData.eqv (kqdP d) (kqdP d) = true := by
  have all : ∀ (n : Nat), (∀ d, kb n d = true → ((kqdP d).canLay0 = true ∧ (kqdP d).depth ≤ n) ∧ PyData.eqv (kqdP d) (kqdP d) = true) → ∀ ds : List Dat, (∀ d ∈ ds, kb n d = true) → (PyData.canLayAll0 (kqdPs ds) = true ∧ PyData.depthAll (kqdPs ds) ≤ n) ∧ PyData.eqvAll (kqdPs ds) (kqdPs ds) = true := by
    intro n ih ds
    induction ds with
    | nil => intro _; simp [kqdPs, PyData.canLayAll0, PyData.depthAll, PyData.eqvAll]
    | cons d ds hi =>
      intro h
      have h1 := ih d (h d (.head _))
      have h2 := hi fun e he => h e (.tail _ he)
      simp only [kqdPs, PyData.canLayAll0, PyData.depthAll, PyData.eqvAll, h1.1.1, h2.1.1, h1.2, h2.2, Bool.and_self, true_and, and_true]
      have a1 := h1.1.2
      have a2 := h2.1.2
      omega
  intro n
  induction n with
  | zero =>
    intro d h
    cases d <;> simp_all [kb, kqdP, PyData.canLay0, PyData.depth, PyData.eqv]
  | succ n ih =>
    intro d h
    cases d with
    | none => simp [kqdP, PyData.canLay0, PyData.depth, PyData.eqv]
    | bool b => simp [kqdP, PyData.canLay0, PyData.depth, PyData.eqv]
    | int i => simp [kqdP, PyData.canLay0, PyData.depth, PyData.eqv]
    | str x => simp [kb] at h; simp [kqdP, PyData.canLay0, PyData.depth, PyData.eqv, h]
    | bytes b => simp [kb] at h
    | tuple ds =>
      have q := all n ih ds (by simpa [kb] using h)
      have q2 := q.1.2
      simp only [kqdP, PyData.canLay0, PyData.depth, PyData.eqv, q.1.1, q.2, true_and, and_true]
      omega
    | list ds =>
      have q := all n ih ds (by simpa [kb] using h)
      have q2 := q.1.2
      simp only [kqdP, PyData.canLay0, PyData.depth, PyData.eqv, q.1.1, q.2, true_and, and_true]
      omega
section
variable {prog : Program} {w : World} {A : Around} {E : Value → Shared → Prop} {s : Shared} {h₀ : Heap} {L a b : Addr} {news n₁ n₂ : List (Addr × Obj)} {oa ob : Obj} {xs ys : List Value} {ka kb' : Nat} {ds : List Dat} {Q : Value → Shared → Prop}
/-- two lists that tell the same data -/
theorem kb_eq (N : News h₀ L s.heap news) (ma : (a, oa) ∈ news) (ca : oa.cls = .type "list") (da : oa.data = .seq xs.toArray ka) (Da : DatAll n₁ xs ds) (sa : ∀ p ∈ n₁, p ∈ news)
    (mb : (b, ob) ∈ news) (cb : ob.cls = .type "list") (db : ob.data = .seq ys.toArray kb') (Db : DatAll n₂ ys ds) (sb : ∀ p ∈ n₂, p ∈ news)
    (ha : ∀ d ∈ ds, kb 8 d = true) (hu : A.units + 64 < cLine) (h : Q (.bool true) s) : wpAny (model prog w) A (compareOp .Eq (.ref a) (.ref b)) Q E s := by
  obtain ⟨as, ra⟩ := kb_all N 8 (Da.mono sa) ha
  obtain ⟨bs, rb⟩ := kb_all N 8 (Db.mono sb) ha
  have la := kb_lay 9 (.list ds) (by simpa [kb] using ha)
  rw [kqdP] at la
  refine eq_dataH (reads_list_at (N.get ma) ca da (by simpa using ra)) (reads_list_at (N.get mb) cb db (by simpa using rb)) ?_ ?_ hu (by rw [la.2]; exact h)
  · unfold SeqAt.shaped; rw [la.1.1, Bool.true_and]; exact decide_eq_true (Nat.le_trans la.1.2 (by decide))
  · unfold SeqAt.shaped; rw [la.1.1, Bool.true_and]; exact decide_eq_true (Nat.le_trans la.1.2 (by decide))
end
end
section
set_option maxHeartbeats 800000
noncomputable abbrev Row := Addr × Obj
noncomputable def Apart (a b : List Row) : Prop := ∀ p ∈ a, ∀ q ∈ b, @Ne Nat p.1 q.1
theorem Apart.symm {a b : List Row} (h : Apart a b) : Apart b a := fun p hp q hq e => h q hq p hp e.symm
theorem Apart.appR {a b c : List Row} (h : Apart a b) (k : Apart a c) : Apart a (b ++ c) := fun p hp q hq => (List.mem_append.mp hq).elim (h p hp q) (k p hp q)
theorem Apart.lefts {a b c : List Row} (h : Apart (a ++ b) c) : Apart a c ∧ Apart b c := ⟨fun p hp => h p (List.mem_append_left _ hp), fun p hp => h p (List.mem_append_right _ hp)⟩
theorem apart_new {g h h' : Heap} {L : Addr} {l l' rest : List Row} (N : News g L h rest) (hr : Apart rest l) (U : Under (hid h l) h' l') : Apart l' rest := fun p hp q hq e => by
  have h1 := (U.at_ p hp).2
  have h2 := hid_at (l := l) (N q hq).1 fun r hr' e2 => hr q hq r hr' (by exact e2.symm)
  rw [show p.1 = q.1 from e, h2] at h1
  cases h1
theorem blk {g h h' : Heap} {L : Addr} {m : Str → Option Value} {pre post : List (List Row)} {l l1 R Rn : List Row} (F : Fr g L h m) (N : News g L h (pre ++ l :: (post ++ [R])).flatten) (P : (pre ++ l :: (post ++ [R])).Pairwise Apart) (U : Under (hid h l) h' (l1 ++ Rn)) (ap1 : Apart l1 Rn) :
    Fr g L h' m ∧ News g L h' (pre ++ l1 :: (post ++ [R ++ Rn])).flatten ∧ (pre ++ l1 :: (post ++ [R ++ Rn])).Pairwise Apart := by
  rw [List.pairwise_append, List.pairwise_cons, List.pairwise_append] at P
  obtain ⟨P1, ⟨P2, P3, P4, P5⟩, P6⟩ := P
  have hl : ∀ b, b ∈ pre ∨ b ∈ post ∨ b = R → Apart b l := fun b hb => by
    rcases hb with hb | hb | rfl
    · exact P6 b hb l (.head _)
    · exact (P2 b (List.mem_append_left _ hb)).symm
    · exact (P2 _ (List.mem_append_right _ (.head _))).symm
  have hm : ∀ e, e ∈ (pre ++ l :: (post ++ [R])).flatten ↔ e ∈ l ∨ ∃ b, (b ∈ pre ∨ b ∈ post ∨ b = R) ∧ e ∈ b := fun e => by
    simp only [List.mem_flatten, List.mem_append, List.mem_cons, List.not_mem_nil, or_false]
    constructor
    · rintro ⟨b, (hb | rfl | hb | rfl), he⟩
      · exact .inr ⟨b, .inl hb, he⟩
      · exact .inl he
      · exact .inr ⟨b, .inr (.inl hb), he⟩
      · exact .inr ⟨b, .inr (.inr rfl), he⟩
    · rintro (he | ⟨b, (hb | hb | rfl), he⟩)
      · exact ⟨l, .inr (.inl rfl), he⟩
      · exact ⟨b, .inl hb, he⟩
      · exact ⟨b, .inr (.inr (.inl hb)), he⟩
      · exact ⟨b, .inr (.inr (.inr rfl)), he⟩
  have N1 : News g L h (l ++ (pre ++ post ++ [R]).flatten) := fun e he => N e ((hm e).mpr (by
    rcases List.mem_append.mp he with he | he
    · exact .inl he
    · obtain ⟨b, hb, he⟩ := List.mem_flatten.mp he
      refine .inr ⟨b, ?_, he⟩
      simp only [List.mem_append, List.mem_cons, List.not_mem_nil, or_false] at hb
      rcases hb with (hb | hb) | hb
      · exact .inl hb
      · exact .inr (.inl hb)
      · exact .inr (.inr hb)))
  have hrl : Apart (pre ++ post ++ [R]).flatten l := fun p hp q hq => by
    obtain ⟨b, hb, hp⟩ := List.mem_flatten.mp hp
    simp only [List.mem_append, List.mem_cons, List.not_mem_nil, or_false] at hb
    exact hl b (by rcases hb with (hb | hb) | hb; exact .inl hb; exact .inr (.inl hb); exact .inr (.inr hb)) p hp q hq
  have hnew := apart_new (fun e he => N1 e (List.mem_append_right _ he)) hrl U
  obtain ⟨F', N'⟩ := under_frame F N1 (fun p hp q hq => (hrl p hp q hq).symm) U
  have hnb : ∀ b, b ∈ pre ∨ b ∈ post ∨ b = R → Apart (l1 ++ Rn) b := fun b hb p hp q hq => hnew p hp q (List.mem_flatten.mpr ⟨b, by
    simp only [List.mem_append, List.mem_cons, List.not_mem_nil, or_false]
    rcases hb with hb | hb | hb
    · exact .inl (.inl hb)
    · exact .inl (.inr hb)
    · exact .inr hb, hq⟩)
  refine ⟨F', fun e he => N' e ?_, ?_⟩
  · simp only [List.mem_flatten, List.mem_append, List.mem_cons, List.not_mem_nil, or_false] at he
    obtain ⟨b, hb, he⟩ := he
    rcases hb with hb | rfl | hb | rfl
    · exact List.mem_append_right _ (List.mem_flatten.mpr ⟨b, by simp [hb], he⟩)
    · exact List.mem_append_left _ (List.mem_append_left _ he)
    · exact List.mem_append_right _ (List.mem_flatten.mpr ⟨b, by simp [hb], he⟩)
    · rcases List.mem_append.mp he with he | he
      · exact List.mem_append_right _ (List.mem_flatten.mpr ⟨R, by simp, he⟩)
      · exact List.mem_append_left _ (List.mem_append_right _ he)
  · rw [List.pairwise_append, List.pairwise_cons, List.pairwise_append]
    refine ⟨P1, ⟨fun b hb => ?_, P3, List.pairwise_singleton _ _, fun a ha b hb => ?_⟩, fun a ha b hb => ?_⟩
    · rcases List.mem_append.mp hb with hb | hb
      · exact (hnb b (.inr (.inl hb))).lefts.1
      · rw [List.mem_singleton.mp hb]
        exact ((hnb R (.inr (.inr rfl))).lefts.1).appR ap1
    · rw [List.mem_singleton.mp hb]
      exact (P5 a ha R (.head _)).appR ((hnb a (.inr (.inl ha))).lefts.2.symm)
    · rcases List.mem_cons.mp hb with rfl | hb
      · exact (hnb a (.inl ha)).lefts.1.symm
      · rcases List.mem_append.mp hb with hb | hb
        · exact P6 a ha b (.tail _ (List.mem_append_left _ hb))
        · rw [List.mem_singleton.mp hb]
          exact (P6 a ha R (.tail _ (List.mem_append_right _ (.head _)))).appR ((hnb a (.inl ha)).lefts.2.symm)
/-- a row that holds a list or a tuple -/
noncomputable def isSeq (e : Row) : Bool := match e.2.data with | .seq _ _ => true | _ => false
mutual
theorem datIn_seq {R : List Row} : ∀ {v : Value} {d : Dat}, DatIn R v d → DatIn (R.filter isSeq) v d
  | _, _, .none => .none
  | _, _, .bool b => .bool b
  | _, _, .int i t => .int i t
  | _, _, .str x t => .str x t
  | _, _, .bytes b t => .bytes b t
  | _, _, .tuple hm r => .tuple (List.mem_filter.mpr ⟨hm, rfl⟩) (datAll_seq r)
  | _, _, .list hm r => .list (List.mem_filter.mpr ⟨hm, rfl⟩) (datAll_seq r)
theorem datAll_seq {R : List Row} : ∀ {vs : List Value} {ds : List Dat}, DatAll R vs ds → DatAll (R.filter isSeq) vs ds
  | _, _, .nil => .nil
  | _, _, .cons a b => .cons (datIn_seq a) (datAll_seq b)
end
theorem tree_apart {g h : Heap} {S : TS} (W : WF S) {w : World} {pm : Value} {R : List Row} (U : Under g h (S.objs w pm ++ R)) : Apart (S.objs w pm) (R.filter isSeq) := fun p hp q hq e => by
  obtain ⟨hq1, hq2⟩ := List.mem_filter.mp hq
  have h1 := (U.at_ p (List.mem_append_left _ hp)).1
  have h2 := (U.at_ q (List.mem_append_right _ hq1)).1
  rw [show p.1 = q.1 from e, h2] at h1
  have h3 : q.2 = p.2 := Option.some.inj h1
  unfold isSeq at hq2
  split at hq2
  · rename_i vs n hd
    exact tree_seq W hp _ _ (h3 ▸ hd)
  · cases hq2
theorem under_seq {g h : Heap} {l R : List Row} (U : Under g h (l ++ R)) : Under g h (l ++ R.filter isSeq) := ⟨U.kg, U.sz, fun p hp => by
  rcases List.mem_append.mp hp with hp | hp
  · exact U.at_ p (List.mem_append_left _ hp)
  · exact U.at_ p (List.mem_append_right _ (List.mem_filter.mp hp).1)⟩
theorem datAll_snoc {R : List Row} : ∀ {vs : List Value} {ds : List Dat} {v : Value} {d : Dat}, DatAll R vs ds → DatIn R v d → DatAll R (vs ++ [v]) (ds ++ [d])
  | _, _, _, _, .nil, h => .cons h .nil
  | _, _, _, _, .cons a b, h => .cons a (datAll_snoc b h)
section
variable {prog : Program} {w : World} {A : Around} {E : Value → Shared → Prop} {s : Shared}
theorem happend {D : Addr} {vs : List Value} {n : Nat} {x : Value} {Q : Value → Shared → Prop} (ho : s.heap.get? D = some (listOf vs.toArray n)) (hz : vs.length ≤ 1000000)
    (h : ∀ h', Under (hid s.heap [(D, listOf vs.toArray n)]) h' ([(D, listOf (vs ++ [x]).toArray (n + 1))] ++ []) → Q .none { s with heap := h' }) : wpAny (model prog w) A (call (.builtin "list.append") [.ref D, x]) Q E s := by
  refine append_at ho (fun h' hs ho' => h h' ⟨fun b o e => ?_, ?_, fun p hp => ?_⟩) (by rw [List.size_toArray, sizeLine_eq]; omega)
  · have hb : b ≠ D := fun q => by
      have : (hid s.heap [(D, PySem.W.listOf vs.toArray n)]).get? b = none := hideAll_none _ (by rw [q]; exact .head _)
      rw [this] at e; cases e
    exact (hs.2 b hb).trans (of_hideAll _ e)
  · rw [hideAll_size]; exact Nat.le_of_eq hs.1.symm
  · rw [List.append_nil] at hp
    rw [List.mem_singleton.mp hp]
    rw [List.push_toArray] at ho'
    exact ⟨ho', hideAll_none _ (.head _)⟩
end
theorem due_kb {kept icy : List Path} {k : Nat} {ns : Path} (h : ∀ q ∈ kept, AB q) : kb 8 (dueS 61 kept icy k ns).1 = true := by
  unfold dueS
  split
  · rfl
  · split
    · split
      · show List.all _ _ = true
        rw [List.all_eq_true]
        intro d hd
        obtain ⟨q, hq, rfl⟩ := List.mem_map.mp hd
        exact ab_strOk (h q (below_mem 61 kept ns q hq).1)
      · rfl
    · dsimp only
      split <;> rfl
structure LS where
  S : TS
  told : List Value
  tn : Nat
  due : List Value
  dn : Nat
  pvs : List Value
  pn : Nat
  ivs : List Value
  icn : Nat
  wa : Addr
  wvs : List Value
  wn : Nat
  icy : List Path
  ns : List Str
  R : List Row
  st : Tok
noncomputable def LS.blocks (c : LS) (w : World) (pm : Value) (tA dA pA iA cA : Addr) (cs : Obj) : List (List Row) :=
  [c.S.objs w pm, [(tA, listOf c.told.toArray c.tn)], [(dA, listOf c.due.toArray c.dn)], [(pA, listOf c.pvs.toArray c.pn), (iA, listOf c.ivs.toArray c.icn)], [(c.wa, listOf c.wvs.toArray c.wn)], [(cA, cs)], c.R]
structure LOk (i : Nat) (c : LS) (x0 : Addr) : Prop where
  wf : WF c.S
  pv : StrsAre c.pvs (c.S.kept.map (pathR sl))
  iv : StrsAre c.ivs (c.icy.map (pathR sl))
  wv : StrsAre c.wvs c.ns
  ab : AB c.ns
  nl : c.ns.length ≤ 3 * i
  kl : c.S.kept.length ≤ 48 * i
  kab : ∀ q ∈ c.S.kept, AB q
  ind : c.icy.Nodup
  ion : ∀ q ∈ c.icy, c.S.On q
  fz : ∀ q, c.S.On q → ((c.S.loc q).fz.isSome = true ↔ q ∈ c.icy)
  top : (c.S.loc []).x = x0
  tl : c.told.length = i
  dl : c.due.length = i
  dat : ∃ ds, DatAll c.R c.told ds ∧ DatAll c.R c.due ds ∧ ∀ d ∈ ds, kb 8 d = true
theorem lok_turn {i k : Nat} {c : LS} {x0 : Addr} {bs : List Str} {S' : TS} {v1 v2 : Value} {R1 R2 : List Row} {pvs' ivs' us : List Value} {pn' icn' un tn' dn' : Nat} {a : Addr} {t : Tok} (h : LOk i c x0) (hi : i < 16) (hb : ∀ b ∈ bs, b ∈ w2) (hbl : bs.length ≤ 3)
    (W' : WF S') (D1 : DatIn R1 v1 (dueS 61 c.S.kept c.icy k (bs.foldl lawStep c.ns)).1) (hk : S'.kept = (dueS 61 c.S.kept c.icy k (bs.foldl lawStep c.ns)).2.1) (hfz : ∀ q, S'.On q → ((S'.loc q).fz.isSome = true ↔ q ∈ (dueS 61 c.S.kept c.icy k (bs.foldl lawStep c.ns)).2.2))
    (hx : (S'.loc []).x = (c.S.loc []).x) (hus : StrsAre us (bs.foldl lawStep c.ns)) (D2 : DatIn R2 v2 (dueS 61 c.S.kept c.icy k (bs.foldl lawStep c.ns)).1) (hp : StrsAre pvs' ((dueS 61 c.S.kept c.icy k (bs.foldl lawStep c.ns)).2.1.map (pathR sl))) (hv : StrsAre ivs' ((dueS 61 c.S.kept c.icy k (bs.foldl lawStep c.ns)).2.2.map (pathR sl))) :
    LOk (i + 1) { S := S', told := c.told ++ [v1], tn := tn', due := c.due ++ [v2], dn := dn', pvs := pvs', pn := pn', ivs := ivs', icn := icn', wa := a, wvs := us, wn := un, icy := (dueS 61 c.S.kept c.icy k (bs.foldl lawStep c.ns)).2.2, ns := bs.foldl lawStep c.ns, R := (c.R ++ R1) ++ R2, st := t } x0 := by
  obtain ⟨hab, hl⟩ := lawSteps_w2 bs h.ab hb
  have hpl := ab_len hab
  have hnl := h.nl
  have hkl := h.kl
  have hlen : (bs.foldl lawStep c.ns).length ≤ 3 * (i + 1) := by omega
  have hkx : ∀ q ∈ c.S.kept, (pathR sl q).length ≤ 1000 := fun q hq => by
    have h1 := ab_len (h.kab q hq)
    have h2 := (h.wf.ok q hq).2.2
    omega
  obtain ⟨⟨i1, i2⟩, i3, i4⟩ := due_inv (k := k) (kept_ok h.wf hkx) ⟨h.ind, fun q hq => (h.ion q hq).cases⟩ (ab_ok hab) (by omega)
  obtain ⟨ds, d1, d2, d3⟩ := h.dat
  have s0 : ∀ p ∈ c.R, p ∈ (c.R ++ R1) ++ R2 := fun p hp => List.mem_append_left _ (List.mem_append_left _ hp)
  refine ⟨W', by rw [hk]; exact hp, hv, hus, hab, hlen, by rw [hk]; omega, fun q hq => ?_, i1, fun q hq => ?_, hfz, hx.trans h.top, by rw [List.length_append, h.tl]; rfl, by rw [List.length_append, h.dl]; rfl, ds ++ [_], datAll_snoc (d1.mono s0) (D1.mono fun p hp => List.mem_append_left _ (List.mem_append_right _ hp)), datAll_snoc (d2.mono s0) (D2.mono fun p hp => List.mem_append_right _ hp), fun d hd => ?_⟩
  · rw [hk] at hq
    rcases i4 q hq with e | ⟨j, e⟩
    · exact h.kab q e
    · rw [e]; exact ab_take hab j
  · rcases i2 q hq with e | e
    · rw [e]; exact .nil
    · exact .kept (by rw [hk]; exact e)
  · rcases List.mem_append.mp hd with hd | hd
    · exact d3 d hd
    · rw [List.mem_singleton.mp hd]; exact due_kb h.kab
end
section
local macro_rules | `(tactic| walk_at "call builtin:len") => `(tactic| (
  (with_reducible show wpAny _ _ (PySem.call (Value.builtin "len") [Value.ref _]) _ _ _);
  k_dflt ((refine' len_strsA ?a ?b ?c ?_); (case a => first | exact News.isList (by assumption) (by k_mem) | exact ⟨_, Fr.keep (by assumption) _ _ (by assumption), rfl, _, rfl⟩); (case b => assumption); (case c => omega))))
local macro_rules | `(tactic| walk_at "subscriptTail Name Slice ref ref") => `(tactic| (k_here; (with_reducible show wpAny _ _ (subscriptTail _ (PySem.Expr.Slice _ _ none _) (Value.ref _) (Value.ref _)) _ _ _); (refine' kmk_slice ?F ?N ?l ?p ?q ?_ ?s ?t ?z; (case F => k_asm); (case N => k_asm); (case l => kmk_list); (case p => kmk_part); (case q => kmk_part); (case s => with_unfolding_all rfl); (case t => kmk_pure); (case z => (rw [List.size_toArray, sizeLine_eq]; omega))); (intro D' h' F' N' l1; (try simp only [pick_upto, pick_upto1, pick_init] at N'); (try k_lt l1); (try k_sweep))))
local macro_rules | `(tactic| walk_at "exec For Name BinOp cons nil") => `(tactic| (k_here; (rename Fr _ _ _ _ => lF'); (with_unfolding_all refine' For_invVF lF' ?k1 ?k2 ?_; (case k1 => exact rfl); (case k2 => exact rfl))))
local macro_rules | `(tactic| walk_at "call builtin:list.remove") => `(tactic| (refine stop ?_))
local macro_rules | `(tactic| walk_at "call builtin:str.join") => `(tactic| (refine stop ?_))
local macro_rules | `(tactic| walk_at "CompSrcT") => `(tactic| (refine stop ?_))
local macro_rules | `(tactic| walk_at "CompSrc") => `(tactic| (refine stop ?_))
local macro_rules | `(tactic| walk_at "my subR") => `(tactic| (refine List.forall_mem_cons.mpr ⟨by k_mem, List.forall_mem_cons.mpr ⟨by k_mem, ?_⟩⟩; (repeat (refine List.forall_mem_cons.mpr ⟨by k_mem, ?_⟩)); exact List.forall_mem_nil _))
local macro_rules | `(tactic| walk_at "call ref") => `(tactic| (
  (with_reducible show wpAny _ _ (PySem.call (Value.ref 245) [Value.ref _, Value.str _ _]) _ _ _);
  (k_dflt (refine' BelowOk.use (below_ct 61) ?X ?T ?d ?u ?k ?nd ?pl ?len ?hd ?ka ?hv ?_)); (case k => exact KeptOk.ok (by assumption)); (case nd => exact KeptOk.nd (by assumption)); (case pl => assumption); (case len => omega); (case hd => assumption); (case ka => exact News.get (by assumption) (by k_mem)); (case hv => assumption); walk_at "my pre";
  intro a' us' un' h' tk' kp' fr' ob' hu'; walk_at "my add1"))
local macro_rules | `(tactic| walk_at "call ref") => `(tactic| (
  (with_reducible show wpAny _ _ (PySem.call (Value.ref 238) [Value.ref _, Value.str _ _]) _ _ _);
  (k_dflt (refine' in_ct ?X ?T ?d ?u ?k ?pl ?len ?ka ?hv ?_)); (case k => exact KeptOk.ok (by assumption)); (case pl => assumption); (case len => assumption); (case ka => exact News.get (by assumption) (by k_mem)); (case hv => assumption); walk_at "my pre";
  intro a' us' h' tk' kp' fr' ob' hu'; walk_at "my add3"))
theorem due_ct : ∀ {w : World} {dp un : Nat} {fr : Option (List Env)} {gd : Option (List Code)} {s : Shared} {Q E : Value → Shared → Prop} {ka fa na : Addr} {kvs fvs nvs : List Value} {kn fn nn : Nat} {kept icy : List Path} {ns : List Str} {k : Nat} {t : Tok}
   {p loose mg mb} {g : Heap}
   (X : (K2 w.params).In g) (T : TopRead p loose mg mb g) (U : Under g s.heap [(ka, listOf kvs.toArray kn), (fa, listOf fvs.toArray fn)]) (hdp : dp + 100 < 1000) (hu : un + 800 < 9900)
   (hkf : @Ne Nat ka fa) (hna : g.get? na = some (listOf nvs.toArray nn)) (hnv : StrsAre nvs ns) (hkv : StrsAre kvs (kept.map (pathR sl))) (hfv : StrsAre fvs (icy.map (pathR sl)))
   (hko : KeptOk kept) (hk60 : ∀ q ∈ kept, q.length ≤ 60) (hkl : kept.length ≤ 900) (hic : icy.Nodup ∧ ∀ q ∈ icy, q = [] ∨ q ∈ kept) (hns : NamesOk ns) (hlen : ns.length ≤ 60) (hpl : (pathR sl ns).length ≤ 1000)
   (hQ : ∀ v R h' tk kvs' fvs' kn' fn', Under g h' ((ka, listOf (kvs' : List Value).toArray kn') :: (fa, listOf (fvs' : List Value).toArray fn') :: R) → DatIn R v (dueS 61 kept icy k ns).1 → StrsAre kvs' ((dueS 61 kept icy k ns).2.1.map (pathR sl)) → StrsAre fvs' ((dueS 61 kept icy k ns).2.2.map (pathR sl)) → (∀ e ∈ R, @Ne Nat e.1 ka ∧ @Ne Nat e.1 fa) → Q v { s with heap := h', toks := tk })
   , wpAny (model PySem.Challenge.rw_il0142_02.row.prog w) (Ar dp un fr gd) (call (.ref 250) [.ref ka, .ref fa, .int k t, .ref na]) Q E s := by
  k_fill
  intro w dp un fr gd s Q E ka fa na kvs fvs nvs kn fn nn kept icy ns k t p loose mg mb g X T U hdp hu hkf hna hnv hkv hfv hko hk60 hkl hic hns hlen hpl hQ
  have hin : ∀ q ∈ icy, NamesOk q := fun q hq => by
    rcases hic.2 q hq with rfl | e
    · intro m hm; cases hm
    · exact (hko.ok q e).2.1
  have hil2 : icy.length ≤ 901 := by
    have := nodup_len icy ([] :: kept) hic.1 fun q hq => by rcases hic.2 q hq with rfl | e; exact .head _; exact .tail _ e
    rw [List.length_cons] at this; omega
  have hfl : fvs.length ≤ 901 := by rw [strsAre_len hfv, List.length_map]; exact hil2
  have hkvl : kvs.length ≤ 900 := by rw [strsAre_len hkv, List.length_map]; exact hkl
  have hkn : ∀ q ∈ kept, NamesOk q := fun q hq => (hko.ok q hq).2.1
  refine' enterC2 [(Str.ofString "kept", .ref ka), (Str.ofString "frozen", .ref fa), (Str.ofString "kind", .int k t), (Str.ofString "names", .ref na)] (Str.ofString "kept") (.ref ka) (Str.ofString "names") (.ref na) ?X ?T ?U ?ho ?hcd ?hroom ?hbind ?hcs ?hkind ?hval ?hval2 ?hne ?_ ?hco ?hgen ?hk
  (case X => assumption); (case T => assumption); (case U => assumption); (case ho => k_is); (case hcd => k_is); (case hroom => first | exact roomE (by assumption) | (dsimp only [Ar, recursionLimit]; omega));
  (case hbind => exact rfl); (case hcs => exact fun _ => rfl); (case hkind => (repeat (first | exact List.forall_mem_nil _ | refine List.forall_mem_cons.mpr ⟨by first | exact .inl rfl | exact .inr ⟨rfl, .inl rfl⟩ | exact .inr ⟨rfl, .inr rfl⟩, ?_⟩))); (case hval => exact fun _ => rfl); (case hval2 => exact fun _ => rfl); (case hne => decide +kernel); (case hco => exact rfl); (case hgen => exact rfl); (case hk => exact rfl);
  intro L' cA cB h₁' tk' oA oB F' N' hod' hod2' k₁' hc' hd' hcd'
  k_fold
  have a1 := (U.at_ _ (.head _)).1
  have a2 := (U.at_ _ (.tail _ (.head _))).1
  have n1 : @Ne Nat cA ka := fun e => by rw [e] at hc'; rw [hc'] at a1; cases a1
  have n2 : @Ne Nat cB ka := fun e => by rw [e] at hd'; rw [hd'] at a1; cases a1
  have n3 : @Ne Nat cA fa := fun e => by rw [e] at hc'; rw [hc'] at a2; cases a2
  have n4 : @Ne Nat cB fa := fun e => by rw [e] at hd'; rw [hd'] at a2; cases a2
  clear a1 a2
  k_steps
  unfold Stop
  rename Fr _ _ _ _ => F
  rename News _ _ _ _ => N
  rename IsRange _ _ _ _ _ _ _ _ => hr
  have hil : g.IsList na nvs.toArray := ⟨_, hna, rfl, nn, rfl⟩
  have hnl : nvs.length ≤ 60 := by rw [strsAre_len hnv]; exact hlen
  refine LCg.CompSrc.range (n := ns.length) rfl F N hr (range_small hlen) (range_size _) (by rw [sizeLine_eq]; omega) (fun gg => ?_)
  refine compU_inv (J := fun i ys nw => nw = [(_, _), (_, _), (_, _), (_, _)] ∧ StrsAre ys ((List.range' 1 i).map fun j => pathR sl (ns.take j))) ⟨rfl, .nil⟩ ?_ ?_
  · rintro ys nw ⟨rfl, hJ⟩
    k_steps
    unfold Stop
    rename Fr _ _ _ _ => F1
    rename News _ _ _ _ => N1
    rename_i DF _ _ _
    refine ljoinH ⟨_, F1.keep _ _ hna, rfl, nn, rfl⟩ hnv (by have := join_fits hpl ns.length; rwa [List.take_length] at this) fun t' tk' => ?_
    refine add_path hpl fun t'' tk'' => ?_
    k_steps
    · -- kind 3
      unfold Stop
      rename Fr _ _ _ _ => F2
      rename News _ _ _ _ => N2
      have hk3 : k = 3 := by omega
      have hl := strsAre_len hJ
      rw [List.length_map, List.length_range'] at hl
      refine LCt.CompSrcT.ledger (its := ys.toArray) rfl F2 N2 (.head _) (by rw [List.size_toArray, sizeLine_eq]; omega) (fun g2 => ?_)
      refine compT_inv (J := fun i zs nw => nw = [(_, _), (_, _), (_, _), (_, _), (_, _)] ∧ StrsAre zs (((List.range' 1 i).filter fun j => decide (ns.take j ∈ kept)).map fun j => pathR sl (ns.take j))) ⟨rfl, .nil⟩ ?_ ?_
      · rintro zs nw ⟨rfl, hJ2⟩
        rw [List.size_toArray, hl] at hJ2
        have hzl := strsAre_len hJ2
        have hzl0 : zs.length = (List.range' 1 ns.length).countP fun j => decide (ns.take j ∈ kept) := by
          rw [hzl, List.length_map, List.countP_eq_length_filter]
        have hzl2 : zs.length ≤ 60 := by
          rw [hzl, List.length_map]; refine Nat.le_trans (List.length_filter_le _ _) ?_; rw [List.length_range']; exact hlen
        have hzl3 := hzl2
        rw [hzl] at hzl3
        k_steps
        rw [← strsAre_len hJ2, hzl0]
        have hd : dueS 61 kept icy k ns = (.int ((List.range' 1 ns.length).countP fun j => decide (ns.take j ∈ kept) : Nat), kept, icy) := by
          unfold dueS; rw [if_pos hk3]
        rw [hd] at hQ
        rename Fr _ _ _ _ => F3
        rename News _ _ _ _ => N3
        refine hQ _ [] _ _ kvs fvs kn fn (fr_under F3 N3 ?_) (.int _ _) hkv hfv (fun e he => nomatch he)
        walk_at "my subR"
      · intro i v I oI C oC D m₂ zs nw h tk E' hi hv' hJ2 hoC hmx F N off ne
        obtain ⟨rfl, hJ2⟩ := hJ2
        rw [List.getElem?_toArray] at hv'
        obtain ⟨hi2, tt, rfl⟩ := take_range ns hJ hv'
        simp only [LCg.Off3, and_true] at off
        obtain ⟨ne1, ne2, ne3⟩ := ne
        clear hJ
        k_steps
        rw [any_path hkn (names_take hns _)]
        have hfl : (List.range' 1 (i + 1)).filter (fun j => decide (ns.take j ∈ kept)) = (List.range' 1 i).filter (fun j => decide (ns.take j ∈ kept)) ++ (if ns.take (i + 1) ∈ kept then [i + 1] else []) := by
          rw [range_snoc, List.filter_append]
          congr 1
          by_cases h : ns.take (i + 1) ∈ kept <;> simp [h]
        by_cases h : ns.take (i + 1) ∈ kept
        · rw [decide_eq_true h]
          refine WhlIf.yes rfl ?_
          k_steps
          unfold Stop
          refine ⟨rfl, ?_⟩
          rw [hfl, if_pos h, List.map_append, List.map_singleton]
          exact strsAre_snoc hJ2 _ _
        · rw [decide_eq_false h]
          refine WhlIf.no rfl ?_
          k_steps
          unfold Stop
          refine ⟨rfl, ?_⟩
          rw [hfl, if_neg h, List.append_nil]
          exact hJ2
    · -- kind 4, there
      rename (List.any _ _ = true) => ha
      rw [any_path hkn hns, decide_eq_true_eq] at ha
      have hd61 : ∀ q ∈ kept, q.length < ns.length + 61 := fun q hq => by have := hk60 q hq; omega
      have hd : dueS 61 kept icy k ns = (.list ((belowS 61 kept ns).map fun q => .str (pathR sl q)), kept.filter (notUnder ns), icy.filter (notUnder ns)) := by
        unfold dueS; rw [if_neg (by omega), if_pos (by omega), if_pos ha]
      rw [hd] at hQ
      have hbl := below_len 61 ns hko.nd
      k_steps
      unfold Stop
      rename Fr _ _ _ _ => F2
      rename News _ _ _ _ => N2
      rename_i a1 us uq _ _ _ hsa ne1 hl1 _ la hX _ NX l1 _
      have hA1 : @Ne Nat a1 ka ∧ @Ne Nat a1 fa := ⟨fun e => ne1.2.2.2.1 e.symm, fun e => ne1.2.2.2.2 e.symm⟩
      have m1 : @LT.lt Nat _ ka hX.objs.size := Heap.lt_size (News.get NX (by k_mem))
      have m2 : @LT.lt Nat _ fa hX.objs.size := Heap.lt_size (News.get NX (by k_mem))
      have m3 : @LT.lt Nat _ cA hX.objs.size := Heap.lt_size (News.get NX (by k_mem))
      have m4 : @LT.lt Nat _ cB hX.objs.size := Heap.lt_size (News.get NX (by k_mem))
      have m5 : @LT.lt Nat _ a1 hX.objs.size := Heap.lt_size (News.get NX (by k_mem))
      clear NX
      have hrn := rows_nodup (D := 61) (ns := ns) hko.nd
      have hcut1 := due_cut (D := 61) hko.clo hd61 ha (hko.ok ns ha).1 hko.nd fun q hq => .inr hq
      have hcut2 := due_cut (D := 61) hko.clo hd61 ha (hko.ok ns ha).1 hic.1 hic.2
      have hrows : StrsAre (.str (pathR sl ns) t'' :: us) ((ns :: belowS 61 kept ns).map (pathR sl)) := .cons _ _ hsa
      refine for_list2 (σ := List Value × Nat × List Value × Nat) (fun c => [(hX.objs.size, W.listOf (.str (pathR sl ns) t'' :: us : List Value).toArray 0), (a1, W.listOf us.toArray uq), (cA, oA), (cB, oB), (ka, W.listOf c.1.toArray c.2.1), (fa, W.listOf c.2.2.1.toArray c.2.2.2)]) (fun c => [(Str.ofString "below", .ref a1), (Str.ofString "place", .str (pathR sl ns) t''), (Str.ofString "frozen", .ref fa)])
        (fun i c => StrsAre c.1 ((((ns :: belowS 61 kept ns).take i).foldl (fun l q => l.erase q) kept).map (pathR sl)) ∧ StrsAre c.2.2.1 ((((ns :: belowS 61 kept ns).take i).foldl (fun l q => l.erase q) icy).map (pathR sl))) (kvs, kn, fvs, fn) rfl (.inl fun _ => .head _) F2 N2 ?s1 ?s3 ?s4 ?_ ?_
      case s1 => exact ⟨.head _, .tail _ (.tail _ (.head _)), .tail _ (.tail _ (.tail _ (.tail _ (.head _)))), .tail _ (.tail _ (.tail _ (.tail _ (.tail _ (.head _))))), .tail _ (.tail _ (.tail _ (.tail _ (.tail _ (.tail _ (.head _)))))), .tail _ (.tail _ (.tail _ (.tail _ (.tail _ (.tail _ (.tail _ (.head _))))))), trivial⟩
      case s3 => exact ⟨rfl, rfl, rfl, trivial⟩
      case s4 => exact ⟨hkv, hfv⟩
      · intro i v c h tk I it u hv' hP F' N' hcl hne
        obtain ⟨ys1, yn, zs1, zn⟩ := c
        obtain ⟨hP1, hP2⟩ := hP
        obtain ⟨y, tt, rfl, hy⟩ := strsAre_get hrows hv'
        rw [List.getElem?_map] at hy
        obtain ⟨q, hq, rfl⟩ := Option.map_eq_some_iff.mp hy
        dsimp only [chain] at F' N' hP1 hP2
        simp only [AllNe, and_true] at hne
        have hqk : q ∈ kept := ((rows_iff hko.clo hd61 ha).mp (List.mem_of_getElem? hq)).1
        have hqn := hkn q hqk
        have hk1 := (due_row (D := 61) hko.nd hrn hq).mpr hqk
        have hstep := fun l : List Path => take_foldl (fun l q => l.erase q) (ns :: belowS 61 kept ns) l hq
        have hsub1 : ∀ r ∈ ((ns :: belowS 61 kept ns).take i).foldl (fun l q => l.erase q) kept, NamesOk r := fun r hr => by
          rw [erase_all hko.nd] at hr; exact hkn r (List.mem_filter.mp hr).1
        have hsub2 : ∀ r ∈ ((ns :: belowS 61 kept ns).take i).foldl (fun l q => l.erase q) icy, NamesOk r := fun r hr => by
          rw [erase_all hic.1] at hr; exact hin r (List.mem_filter.mp hr).1
        have hys : ys1.length ≤ 1000000 := by
          rw [strsAre_len hP1, List.length_map, erase_all hko.nd]; exact Nat.le_trans (List.length_filter_le _ _) (by omega)
        have hzs : zs1.length ≤ 1000000 := by
          rw [strsAre_len hP2, List.length_map, erase_all hic.1]; exact Nat.le_trans (List.length_filter_le _ _) (by omega)
        clear hrows hcut1 hcut2 hQ
        generalize hKc : ((ns :: belowS 61 kept ns).take i).foldl (fun l q => l.erase q) kept = kc at hP1 hk1 hsub1
        generalize hIc : ((ns :: belowS 61 kept ns).take i).foldl (fun l q => l.erase q) icy = ic at hP2 hsub2
        k_steps
        unfold Stop
        rename Fr _ _ _ _ => F3
        rename News _ _ _ _ => N3
        refine lremove F3 N3 hP1 (List.mem_map_of_mem hk1) (by k_updF) hys fun ws hZ hws F4 N4 => ?_
        try dsimp only at N4
        rw [erase_path hsub1 hqn] at hws
        clear F3 N3
        k_steps
        · rename (List.any _ _ = true) => hb
          unfold Stop
          rw [any_path hsub2 hqn, decide_eq_true_eq] at hb
          rename Fr _ _ _ _ => F5
          rename News _ _ _ _ => N5
          refine lremove F5 N5 hP2 (List.mem_map_of_mem hb) (by k_updF) hzs fun ws2 hZ2 hws2 F6 N6 => ?_
          try dsimp only at N6
          rw [erase_path hsub2 hqn] at hws2
          clear F5 N5
          k_steps
          refine TEnd2.intro (ws, yn + 1, ws2, zn + 1) (by assumption) (by assumption) ⟨by k_mem, by k_mem, by k_mem, by k_mem, by k_mem, by k_mem, trivial⟩ (by k_mem) ⟨.inr hne.1, .inr hne.2.1, .inr hne.2.2.1, .inr hne.2.2.2.1, .inr hne.2.2.2.2.1, .inr hne.2.2.2.2.2, trivial⟩ ⟨rfl, rfl, rfl, trivial⟩ ⟨?_, ?_⟩
          · rw [hstep, hKc]; exact hws
          · rw [hstep, hIc]; exact hws2
        · rename (List.any _ _ = false) => hb
          rw [any_path hsub2 hqn, decide_eq_false_iff_not] at hb
          refine TEnd2.intro (ws, yn + 1, zs1, zn) (by assumption) (by assumption) ⟨by k_mem, by k_mem, by k_mem, by k_mem, by k_mem, by k_mem, trivial⟩ (by k_mem) ⟨.inr hne.1, .inr hne.2.1, .inr hne.2.2.1, .inr hne.2.2.2.1, .inr hne.2.2.2.2.1, .inr hne.2.2.2.2.2, trivial⟩ ⟨rfl, rfl, rfl, trivial⟩ ⟨?_, ?_⟩
          · rw [hstep, hKc]; exact hws
          · rw [hstep, hIc, List.erase_of_not_mem hb]; exact hP2
      · intro c h tk u hP F' N'
        obtain ⟨ys1, yn, zs1, zn⟩ := c
        obtain ⟨hP1, hP2⟩ := hP
        dsimp only [chain] at F' N' hP1 hP2
        rw [show (Value.str (pathR sl ns) t'' :: us).length = (ns :: belowS 61 kept ns).length by rw [List.length_cons, List.length_cons, hl1], List.take_length, hcut1] at hP1
        rw [show (Value.str (pathR sl ns) t'' :: us).length = (ns :: belowS 61 kept ns).length by rw [List.length_cons, List.length_cons, hl1], List.take_length, hcut2] at hP2
        clear hrows hcut1 hcut2
        k_steps
        rename Fr _ _ _ _ => F3
        rename News _ _ _ _ => N3
        refine hQ _ [(a1, W.listOf us.toArray uq)] _ _ ys1 zs1 yn zn (fr_under F3 N3 ?_) (.list (.head _) (datAll_strs _ hsa)) hP1 hP2 (fun e he => by rw [List.mem_singleton.mp he]; exact hA1)
        walk_at "my subR"
    · -- kind 4, not there
      rename (List.any _ _ = false) => ha
      rw [any_path hkn hns, decide_eq_false_iff_not] at ha
      have hd : dueS 61 kept icy k ns = (.none, kept, icy) := by
        unfold dueS; rw [if_neg (by omega), if_pos (by omega), if_neg ha]
      rw [hd] at hQ
      rename Fr _ _ _ _ => F2
      rename News _ _ _ _ => N2
      refine hQ .none [] _ _ kvs fvs kn fn (fr_under F2 N2 ?_) .none hkv hfv (fun e he => nomatch he)
      walk_at "my subR"
    · -- the loop
      unfold Stop
      rename Fr _ _ _ _ => F2
      rename News _ _ _ _ => N2
      refine for_list2 (σ := List Value × Nat × Str × Tok) (fun c => [(DF, LCg.lst ys), (cA, oA), (cB, oB), (ka, W.listOf c.1.toArray c.2.1), (fa, W.listOf fvs.toArray fn)]) (fun c => [(Str.ofString "above", .str c.2.2.1 c.2.2.2), (Str.ofString "place", .str (pathR sl ns) t''), (Str.ofString "frozen", .ref fa), (Str.ofString "kind", .int k t)])
        (fun i c => StrsAre c.1 ((goS icy kept (ns.take i)).1.map (pathR sl)) ∧ (goS icy kept (ns.take i)).2.2 = false ∧ c.2.2.1 = pathR sl (ns.take i)) (kvs, kn, Str.ofString "/", tk) rfl (.inl fun _ => .head _) F2 N2 ?s1 ?s3 ?s4 ?_ ?_
      case s1 => exact ⟨.head _, .tail _ (.head _), .tail _ (.tail _ (.head _)), .tail _ (.tail _ (.tail _ (.head _))), .tail _ (.tail _ (.tail _ (.tail _ (.head _)))), trivial⟩
      case s3 => exact ⟨rfl, rfl, rfl, rfl, trivial⟩
      case s4 => exact ⟨hkv, rfl, C_inj (by rw [C_path]; simp [joinL])⟩
      · intro i v c h tk I it u hv' hP F' N' hcl hne
        obtain ⟨ys1, yn, ab, abt⟩ := c
        obtain ⟨hP1, hP2, hP3⟩ := hP
        obtain ⟨hi2, tt, rfl⟩ := take_range ns hJ hv'
        dsimp only [chain] at F' N' hP1 hP2 hP3
        subst hP3
        simp only [AllNe, and_true] at hne
        obtain ⟨hkoi, _, _, hklen⟩ := goS_ok (icy := icy) hko hns hpl i (by omega)
        have hkni : ∀ q ∈ (goS icy kept (ns.take i)).1, NamesOk q := fun q hq => (hkoi.ok q hq).2.1
        have hyl : ys1.length ≤ 960 := by rw [strsAre_len hP1, List.length_map]; omega
        have hnx := goS_next (icy := icy) (kept := kept) hi2 hP2
        k_steps
        · rename (List.any _ _ = true) => ha
          rw [any_path hkni (names_take hns _), decide_eq_true_eq] at ha
          rw [if_pos ha] at hnx
          refine TEnd2.intro (ys1, yn, pathR sl (ns.take (i + 1)), _) (by assumption) (by assumption) ⟨by k_mem, by k_mem, by k_mem, by k_mem, by k_mem, trivial⟩ (by k_mem) ⟨.inr hne.1, .inr hne.2.1, .inr hne.2.2.1, .inr hne.2.2.2.1, .inr hne.2.2.2.2, trivial⟩ ⟨rfl, rfl, rfl, rfl, trivial⟩ ⟨?_, ?_, rfl⟩
          · rw [hnx]; exact hP1
          · rw [hnx]
        · rename (List.any (List.map _ icy) _ = true) => hb
          rename (List.any _ _ = false) => ha
          rw [any_path hkni (names_take hns _), decide_eq_false_iff_not] at ha
          rw [any_path hin (names_take hns _), decide_eq_true_eq] at hb
          rw [if_neg ha, if_pos hb] at hnx
          obtain ⟨g1, g2⟩ := goS_stuck (icy := icy) (kept := kept) (ns := ns) (i + 1) (by rw [hnx])
          have hd : dueS 61 kept icy k ns = (.tuple [.bool false, .int 0], (goS icy kept (ns.take i)).1, icy) := by
            unfold dueS; rw [if_neg (by omega), if_neg (by omega)]; dsimp only; rw [if_pos g2, g1, hnx]
          rw [hd] at hQ
          rename Fr _ _ _ _ => F3
          rename News _ _ _ _ => N3
          refine hQ _ [_] _ _ ys1 fvs yn fn (fr_under1 F3 N3 ?_ ?_) (.tuple (vs := [_, _]) (.head _) (.cons (.bool _) (.cons (.int _ _) .nil))) hP1 hfv (fun e he => by rw [List.mem_singleton.mp he]; exact ⟨ne_cls N3 (.head _) (by k_mem) (show ¬ Value.type "tuple" = Value.type "list" by decide), ne_cls N3 (.head _) (by k_mem) (show ¬ Value.type "tuple" = Value.type "list" by decide)⟩)
          all_goals k_mem
        · rename (List.any (List.map _ icy) _ = false) => hb
          rename (List.any (List.map _ (goS _ _ _).1) _ = false) => ha
          rw [any_path hkni (names_take hns _), decide_eq_false_iff_not] at ha
          rw [any_path hin (names_take hns _), decide_eq_false_iff_not] at hb
          rw [if_neg ha, if_neg hb] at hnx
          refine TEnd2.intro (ys1 ++ [.str (pathR sl (ns.take (i + 1))) tt], yn + 1, pathR sl (ns.take (i + 1)), _) (by assumption) (by assumption) ⟨by k_mem, by k_mem, by k_mem, by k_mem, by k_mem, trivial⟩ (by k_mem) ⟨.inr hne.1, .inr hne.2.1, .inr hne.2.2.1, .inr hne.2.2.2.1, .inr hne.2.2.2.2, trivial⟩ ⟨rfl, rfl, rfl, rfl, trivial⟩ ⟨?_, ?_, rfl⟩
          · rw [hnx, List.map_append, List.map_singleton]; exact strsAre_snoc hP1 _ _
          · rw [hnx]
      · intro c h tk u hP F' N'
        obtain ⟨ys1, yn, ab, abt⟩ := c
        obtain ⟨hP1, hP2, hP3⟩ := hP
        dsimp only [chain] at F' N' hP1 hP2 hP3
        have hyn : ys.length = ns.length := by rw [strsAre_len hJ, List.length_map, List.length_range']
        rw [hyn, List.take_length] at hP1 hP2 hP3
        obtain ⟨hkoi, _, _, hklen⟩ := goS_ok (icy := icy) hko hns hpl ns.length (Nat.le_refl _)
        rw [List.take_length] at hkoi hklen
        have hl960 : (goS icy kept ns).1.length ≤ 960 := by omega
        have hyl : ys1.length ≤ 960 := by rw [strsAre_len hP1, List.length_map]; exact hl960
        have hml : (List.map (pathR sl) (kidsAt (goS icy kept ns).1 ns)).length ≤ 960 := by
          rw [List.length_map]; exact Nat.le_trans (List.length_filter_le _ _) hl960
        have hd : dueS 61 kept icy k ns = (.tuple [.bool true, .int ((kidsAt (goS icy kept ns).1 ns).length : Nat)], (goS icy kept ns).1, if k = 2 ∧ ns ∉ icy then icy ++ [ns] else icy) := by
          unfold dueS; rw [if_neg (by omega), if_neg (by omega)]; dsimp only; rw [if_neg (by rw [hP2]; simp)]
        rw [hd] at hQ
        clear hJ
        k_steps
        · rename (List.any _ _ = true) => hb
          rw [any_path hin hns, decide_eq_true_eq] at hb
          rw [if_neg (fun e => e.2 hb)] at hQ
          rename Fr _ _ _ _ => F3
          rename News _ _ _ _ => N3
          refine hQ _ [_] _ _ ys1 fvs yn fn (fr_under1 F3 N3 ?_ ?_) (.tuple (vs := [_, _]) (.head _) (.cons (.bool _) (.cons (by rw [List.length_map]; exact .int _ _) .nil))) hP1 hfv (fun e he => by rw [List.mem_singleton.mp he]; exact ⟨ne_cls N3 (.head _) (by k_mem) (show ¬ Value.type "tuple" = Value.type "list" by decide), ne_cls N3 (.head _) (by k_mem) (show ¬ Value.type "tuple" = Value.type "list" by decide)⟩)
          all_goals k_mem
        · rename (List.any _ _ = false) => hb
          rw [any_path hin hns, decide_eq_false_iff_not] at hb
          rw [if_pos ⟨by omega, hb⟩] at hQ
          rename Fr _ _ _ _ => F3
          rename News _ _ _ _ => N3
          refine hQ _ [_] _ _ ys1 (fvs ++ [.str (pathR sl ns) t'']) yn (fn + 1) (fr_under1 F3 N3 ?_ ?_) (.tuple (vs := [_, _]) (.head _) (.cons (.bool _) (.cons (by rw [List.length_map]; exact .int _ _) .nil))) hP1 (by rw [List.map_append]; exact strsAre_snoc hfv _ _) (fun e he => by rw [List.mem_singleton.mp he]; exact ⟨ne_cls N3 (.head _) (by k_mem) (show ¬ Value.type "tuple" = Value.type "list" by decide), ne_cls N3 (.head _) (by k_mem) (show ¬ Value.type "tuple" = Value.type "list" by decide)⟩)
          all_goals k_mem
        · rw [if_neg (fun e => by omega)] at hQ
          rename Fr _ _ _ _ => F3
          rename News _ _ _ _ => N3
          refine hQ _ [_] _ _ ys1 fvs yn fn (fr_under1 F3 N3 ?_ ?_) (.tuple (vs := [_, _]) (.head _) (.cons (.bool _) (.cons (by rw [List.length_map]; exact .int _ _) .nil))) hP1 hfv (fun e he => by rw [List.mem_singleton.mp he]; exact ⟨ne_cls N3 (.head _) (by k_mem) (show ¬ Value.type "tuple" = Value.type "list" by decide), ne_cls N3 (.head _) (by k_mem) (show ¬ Value.type "tuple" = Value.type "list" by decide)⟩)
          all_goals k_mem
  · intro i v I oI C oC D m₂ ys nw h tk E' hi hv' hJ hoC hmx F N off ne
    obtain ⟨rfl, hJ⟩ := hJ
    obtain ⟨tt, rfl⟩ := hv'
    simp only [LCg.Off3, and_true] at off
    obtain ⟨ne1, ne2, ne3⟩ := ne
    k_steps
    unfold Stop
    rename News _ _ _ _ => N1
    refine ljoin N1 (.head _) (strsAre_take _ hnv) (join_fits hpl _) fun t' tk' => ?_
    (have N2 : News _ _ _ (_ :: _) := fun p hp => N1 p (List.mem_cons_of_mem _ hp)); clear N1
    refine add_path (path_take hpl _) fun t'' tk'' => ?_
    k_steps
    unfold Stop
    refine ⟨rfl, ?_⟩
    rw [range_snoc, List.map_append, List.map_singleton]
    exact strsAre_snoc hJ _ _
end
section
local macro_rules | `(tactic| walk_at "call ref") => `(tactic| (k_here; refine stop ?_))
local macro_rules | `(tactic| walk_at "StarOf ref") => `(tactic| (k_here; refine stop ?_))
local macro_rules | `(tactic| walk_at "call builtin:list.append") => `(tactic| (k_here; refine stop ?_))
local macro_rules | `(tactic| walk_at "getMethod ref") => `(tactic| (k_here; refine stop ?_))
local macro_rules | `(tactic| walk_at "compareOp Eq ref ref") => `(tactic| (k_here; refine stop ?_))
section

theorem lit_for {K : Frag} {f : Addr} {P : List Stmt → Str → Scope → Prop} {oc od an osl name qual params a1 a2 a3 tg ite fb oe ps rest scope dV kV doc pm cdv ct}
    {oc' od' an' osl' name' qual' params' a1' a2' a3' tg' ite' fb' oe' ps' rest' scope' dV' kV' doc' pm' cdv' ct'}
    (h1 : K.lookup f = some ⟨oc, od, .func (fnOf name qual params (a1 :: a2 :: a3 :: .For tg ite fb oe ps :: rest) scope dV kV doc pm an cdv ct), osl⟩)
    (h2 : K.lookup f = some ⟨oc', od', .func (fnOf name' qual' params' (a1' :: a2' :: a3' :: .For tg' ite' fb' oe' ps' :: rest') scope' dV' kV' doc' pm' an' cdv' ct'), osl'⟩)
    (h : P fb' qual' scope') : P fb qual scope := by
  have e := Option.some.inj (h1.symm.trans h2)
  injection e with _ _ e3 _
  injection e3 with e4
  have b1 := congrArg FuncData.body e4
  have b2 : qual = qual' := congrArg FuncData.qualname e4
  have b3 : scope = scope' := congrArg FuncData.scope e4
  simp only [fnOf, FuncBody.stmts.injEq, List.cons.injEq, Stmt.For.injEq] at b1
  rw [b1.2.2.2.1.2.2.1, b2, b3]; exact h
noncomputable def LS.ps (c : LS) (tA dA pA iA x0 : Addr) : List (Str × Value) :=
  [(Str.ofString "spot", .str (pathR sl c.ns) c.st), (Str.ofString "told", .ref tA), (Str.ofString "tree", .ref x0), (Str.ofString "way", .ref c.wa), (Str.ofString "places", .ref pA), (Str.ofString "icy", .ref iA), (Str.ofString "due", .ref dA)]

theorem turn_ct : ∀ {w : World} {dp un : Nat} {fr : Option (List Env)} {gd : Option (List Code)} {s : Shared} {Q : Flow → Shared → Prop} {E : Value → Shared → Prop} {c : LS} {i n : Nat} {t : Tok} {x0 tA dA pA iA cA I : Addr} {it cs : Obj} {u : Str → Option Value} {L fa : Addr} {cd : Value}
   {p loose mean mg mb} {g : Heap} {oc od an osl name qual params a1 a2 a3 tg ite fb oe ps rest scope dV kV doc pm cdv ct}
   (hb : (K2 w.params).lookup 255 = some ⟨oc, od, .func (fnOf name qual params (a1 :: a2 :: a3 :: .For tg ite fb oe ps :: rest) scope dV kV doc pm an cdv ct), osl⟩)
   (X : (K2 w.params).In g) (TT : Top p loose mean mg mb g) (T : TopRead p loose mg mb g) (CH : CodeHd g 61 57)
   (F : Fr g L s.heap (fun y => if y = Str.ofString "count" then some (.int n t) else chain (c.ps tA dA pA iA x0) u y)) (N : News g L s.heap ([(I, it)] :: c.blocks w ((mg "__name__").getD .none) tA dA pA iA cA cs).flatten) (P : ([(I, it)] :: c.blocks w ((mg "__name__").getD .none) tA dA pA iA cA cs).Pairwise Apart)
   (hok : LOk i c x0) (hi : i < 16) (hn : n < 2560) (hpi : @Ne Nat pA iA) (hdp : dp + 250 < 1000) (hu : un + 2000 < 9900)
   (hQ : ∀ c' h' tk m', LOk (i + 1) c' x0 → Fr g L h' m' → News g L h' ([(I, it)] :: c'.blocks w ((mg "__name__").getD .none) tA dA pA iA cA cs).flatten → ([(I, it)] :: c'.blocks w ((mg "__name__").getD .none) tA dA pA iA cA cs).Pairwise Apart → AllAt m' (c'.ps tA dA pA iA x0) → Q .next { s with heap := h', toks := tk })
   , wpAny (model PySem.Challenge.rw_il0142_02.row.prog w) ((Ar dp un fr gd).deeper (envOf qual scope L fa cd)) (execs fb (envOf qual scope L fa cd)) Q E s := by
  k_fill
  intro w dp un fr gd s Q E c i n t x0 tA dA pA iA cA I it cs u L fa cd p loose mean mg mb g oc od an osl name qual params a1 a2 a3 tg ite fb oe ps rest scope dV kV doc pm cdv ct hb X TT T CH F N P hok hi hn hpi hdp hu hQ
  refine' lit_for (P := fun b q sc => wpAny (model PySem.Challenge.rw_il0142_02.row.prog w) ((Ar dp un fr gd).deeper (envOf q sc L fa cd)) (execs b (envOf q sc L fa cd)) Q E s) hb ?lit ?_
  case lit => k_is
  clear hb
  try dsimp only
  dsimp only [chain, LS.ps] at F
  obtain rfl := hok.top
  have hst := steps_w2 (n / 5)
  have hsl := steps_len (n := n / 5) (by omega)
  have hsum := w2_sum _ hst
  obtain ⟨sp1, sp2, sp3⟩ := spot_step hok.ab hst
  obtain ⟨hab, hl⟩ := lawSteps_w2 _ hok.ab hst
  have hnl := hok.nl
  have hpl := ab_len hok.ab
  have hpl2 := ab_len hab
  have hjl := foldJoin_len (stepsS (n / 5)) (pathR sl c.ns)
  have hdiv : (n : Int).fdiv 5 = ((n / 5 : Nat) : Int) := by rw [Int.fdiv_eq_ediv_of_nonneg _ (by decide)]; rfl
  have hmod : (n : Int).fmod 5 = ((n % 5 : Nat) : Int) := by rw [Int.fmod_eq_emod_of_nonneg _ (by decide)]; rfl
  try k_fold
  k_steps
  unfold Stop
  rename Fr _ _ _ _ => F1
  rename News _ _ _ _ => N1
  rw [hdiv]
  refine steps_ct (X.keeps F1.keep) (T.keeps F1.keep) (by walk_at "my room") (by walk_at "my room") (by omega) (fun a us uq h1 tk1 k1 fr1 ob1 hus => ?_)
  have F2 := F1.keeps k1
  have N2 := news_add k1 fr1 ob1 F1 N1
  have hul := strsAre_len hus
  refine star_seq (its := us.toArray) (ws := us) F2 N2 (.head _) rfl rfl (.inl rfl) rfl (by rw [List.size_toArray, sizeLine_eq]; omega) (fun h2 F3 N3 => ?_)
  have N4 : News g L h2 ([(I, it)] :: c.blocks w ((mg "__name__").getD .none) tA dA pA iA cA cs).flatten := fun e he => N3 e (.tail _ he)
  clear F1 F2 N1 N2 N3 k1 fr1 ob1
  k_steps
  unfold Stop
  rename Fr _ _ _ _ => F1
  rename News _ _ _ _ => N1
  rw [List.append_nil]
  refine join_ct (X.keeps F1.keep) (T.keeps F1.keep) (by walk_at "my room") (by walk_at "my room") hus (by omega) (fun t1 h3 tk2 k2 => ?_)
  have F2 := F1.keeps k2
  have N2 := N1.keeps k2
  clear F1 N1 k2
  k_steps
  unfold Stop
  rename Fr _ _ _ _ => F1
  rename News _ _ _ _ => N1
  refine normpath_ct (X.keeps F1.keep) (T.keeps F1.keep) (by walk_at "my room") (by walk_at "my room") (by omega) sp3 sp2 (fun t3 h4 tk3 k3 => ?_)
  rw [sp1]
  have F2 := F1.keeps k3
  have N2 := N1.keeps k3
  clear F1 N1 k3 hul hus
  k_steps
  unfold Stop
  rename Fr _ _ _ _ => F1
  rename News _ _ _ _ => N1
  have mT : (tA, PySem.W.listOf c.told.toArray c.tn) ∈ ([(I, it)] :: c.blocks w ((mg "__name__").getD .none) tA dA pA iA cA cs).flatten := List.mem_flatten.mpr ⟨_, .tail _ (.tail _ (.head _)), .head _⟩
  have mS : ∀ e ∈ c.S.objs w ((mg "__name__").getD .none), e ∈ ([(I, it)] :: c.blocks w ((mg "__name__").getD .none) tA dA pA iA cA cs).flatten := fun e he => List.mem_flatten.mpr ⟨_, .tail _ (.head _), he⟩
  refine getMethod_list_append (News.get N1 mT) rfl rfl ?_
  k_steps
  unfold Stop
  rename Fr _ _ _ _ => F1
  rename News _ _ _ _ => N1
  rw [hmod]
  have hkx : ∀ q ∈ c.S.kept, (pathR sl q).length ≤ 1000 := fun q hq => by
    have h1 := ab_len (hok.kab q hq)
    have h2 := (hok.wf.ok q hq).2.2
    omega
  have hkl := hok.kl
  have H := (fr_under F1 N1 mS).hid fun p hp => hp
  refine deed_ct (X.keeps H.2) (TT.keeps H.2) (T.keeps H.2) (CH.keeps H.2) H.1 hok.wf (by walk_at "my room") (by walk_at "my room") hok.fz (ab_ok hab) (by omega) (by omega) (by omega) (ab_strOk1 hab) hkx (by omega) hok.ion (fun v1 R1 S' h5 tk4 U' W' D1 hk' hfz' hx' => ?_)
  obtain ⟨F2, N2, P2⟩ := blk (pre := [[(I, it)]]) (l := c.S.objs w ((mg "__name__").getD .none)) (l1 := S'.objs w ((mg "__name__").getD .none)) (R := c.R) (Rn := R1.filter isSeq)
    (post := [[(tA, PySem.W.listOf c.told.toArray c.tn)], [(dA, PySem.W.listOf c.due.toArray c.dn)], [(pA, PySem.W.listOf c.pvs.toArray c.pn), (iA, PySem.W.listOf c.ivs.toArray c.icn)], [(c.wa, PySem.W.listOf c.wvs.toArray c.wn)], [(cA, cs)]]) F1 N1 P (under_seq U') (tree_apart W' U')
  have D1' := datIn_seq D1
  clear F1 N1 P U' D1 H mT mS
  generalize R1.filter isSeq = R1' at *
  k_steps
  unfold Stop
  rename Fr _ _ _ _ => F1
  rename News _ _ _ _ => N1
  have htl := hok.tl
  have hdl := hok.dl
  refine happend (News.get N1 (o := PySem.W.listOf c.told.toArray c.tn) (List.mem_flatten.mpr ⟨_, .tail _ (.tail _ (.head _)), .head _⟩)) (by omega) (fun h6 U6 => ?_)
  obtain ⟨F2, N2, P3⟩ := blk (pre := [[(I, it)], S'.objs w ((mg "__name__").getD .none)]) (l := [(tA, PySem.W.listOf c.told.toArray c.tn)]) (l1 := [(tA, PySem.W.listOf (c.told ++ [v1]).toArray (c.tn + 1))]) (R := c.R ++ R1') (Rn := [])
    (post := [[(dA, PySem.W.listOf c.due.toArray c.dn)], [(pA, PySem.W.listOf c.pvs.toArray c.pn), (iA, PySem.W.listOf c.ivs.toArray c.icn)], [(c.wa, PySem.W.listOf c.wvs.toArray c.wn)], [(cA, cs)]]) F1 N1 P2 U6 (fun p hp q hq => nomatch hq)
  rw [List.append_nil (c.R ++ R1')] at N2 P3
  clear F1 N1 P2 U6
  k_steps
  unfold Stop
  rename Fr _ _ _ _ => F1
  rename News _ _ _ _ => N1
  rw [hdiv]
  refine steps_ct (X.keeps F1.keep) (T.keeps F1.keep) (by walk_at "my room") (by walk_at "my room") (by omega) (fun a us uq h1 tk1 k1 fr1 ob1 hus => ?_)
  have F2 := F1.keeps k1
  have N2 := N1.keeps k1
  have mW : (c.wa, PySem.W.listOf c.wvs.toArray c.wn) ∈ (([[(I, it)], S'.objs w ((mg "__name__").getD .none)] ++ [(tA, PySem.W.listOf (c.told ++ [v1]).toArray (c.tn + 1))] :: ([[(dA, PySem.W.listOf c.due.toArray c.dn)], [(pA, PySem.W.listOf c.pvs.toArray c.pn), (iA, PySem.W.listOf c.ivs.toArray c.icn)], [(c.wa, PySem.W.listOf c.wvs.toArray c.wn)], [(cA, cs)]] ++ [c.R ++ R1'])) : List (List Row)).flatten :=
    List.mem_flatten.mpr ⟨[(c.wa, PySem.W.listOf c.wvs.toArray c.wn)], by simp, .head _⟩
  have hwa : @Ne Nat c.wa a := fun e => by
    have := News.get N1 mW
    rw [show c.wa = a from e, fr1] at this; cases this
  clear F1 N1 k1 fr1
  k_steps
  unfold Stop
  rename Fr _ _ _ _ => F1
  rename News _ _ _ _ => N1
  have H := (fr_under (l := [(c.wa, PySem.W.listOf c.wvs.toArray c.wn)]) F1 N1 fun p hp => by rw [List.mem_singleton.mp hp]; exact mW).hid fun p hp => hp
  have hstp := w2_sum (stepsS (n / 5)) hst
  refine names_ct (ns := c.ns) (bs := stepsS (n / 5)) (sn := uq) (vs := c.wvs) (ws := us) (nn := c.wn) (X.keeps H.2) (T.keeps H.2) H.1 (by walk_at "my room") (by walk_at "my room") (hid_at ob1 fun p hp => by rw [List.mem_singleton.mp hp]; exact hwa) hus hok.wv (by omega) (fun a2 us2 uq2 h7 tk7 U7 hus2 => ?_)
  obtain ⟨F2, N2, P4⟩ := blk (pre := [[(I, it)], S'.objs w ((mg "__name__").getD .none), [(tA, PySem.W.listOf (c.told ++ [v1]).toArray (c.tn + 1))], [(dA, PySem.W.listOf c.due.toArray c.dn)], [(pA, PySem.W.listOf c.pvs.toArray c.pn), (iA, PySem.W.listOf c.ivs.toArray c.icn)]]) (l := [(c.wa, PySem.W.listOf c.wvs.toArray c.wn)]) (l1 := [(a2, PySem.W.listOf us2.toArray uq2)]) (R := c.R ++ R1') (Rn := [])
    (post := [[(cA, cs)]]) F1 N1 P3 U7 (fun p hp q hq => nomatch hq)
  rw [List.append_nil (c.R ++ R1')] at N2 P4
  clear F1 N1 P3 U7 H mW hwa ob1 hus
  k_steps
  unfold Stop
  rename Fr _ _ _ _ => F1
  rename News _ _ _ _ => N1
  refine getMethod_list_append (News.get N1 (o := PySem.W.listOf c.due.toArray c.dn) (List.mem_flatten.mpr ⟨_, .tail _ (.tail _ (.tail _ (.head _))), .head _⟩)) rfl rfl ?_
  k_steps
  unfold Stop
  rename Fr _ _ _ _ => F1
  rename News _ _ _ _ => N1
  rw [hmod]
  have mP : ∀ e ∈ [(pA, PySem.W.listOf c.pvs.toArray c.pn), (iA, PySem.W.listOf c.ivs.toArray c.icn)], e ∈ (([[(I, it)], S'.objs w ((mg "__name__").getD .none), [(tA, PySem.W.listOf (c.told ++ [v1]).toArray (c.tn + 1))], [(dA, PySem.W.listOf c.due.toArray c.dn)], [(pA, PySem.W.listOf c.pvs.toArray c.pn), (iA, PySem.W.listOf c.ivs.toArray c.icn)]] ++ [(a2, PySem.W.listOf us2.toArray uq2)] :: ([[(cA, cs)]] ++ [c.R ++ R1'])) : List (List Row)).flatten :=
    fun e he => List.mem_flatten.mpr ⟨_, .tail _ (.tail _ (.tail _ (.tail _ (.head _)))), he⟩
  have H := (fr_under F1 N1 mP).hid fun p hp => hp
  have hpa : ∀ p ∈ [(pA, PySem.W.listOf c.pvs.toArray c.pn), (iA, PySem.W.listOf c.ivs.toArray c.icn)], p.1 ≠ a2 := fun p hp => by
    rw [List.pairwise_append] at P4
    exact P4.2.2 _ (.tail _ (.tail _ (.tail _ (.tail _ (.head _))))) [(a2, PySem.W.listOf us2.toArray uq2)] (.head _) p hp _ (.head _)
  have hA2 := News.get N1 (o := PySem.W.listOf us2.toArray uq2) (a := a2) (List.mem_flatten.mpr ⟨[(a2, PySem.W.listOf us2.toArray uq2)], by simp, .head _⟩)
  refine due_ct (X.keeps H.2) (T.keeps H.2) H.1 (by walk_at "my room") (by walk_at "my room") hpi (hid_at hA2 hpa) hus2 hok.pv hok.iv (kept_ok hok.wf hkx) (fun q hq => (hok.wf.ok q hq).2.2) (by omega) ⟨hok.ind, fun q hq => (hok.ion q hq).cases⟩ (ab_ok hab) (by omega) (by omega) (fun v2 R2 h8 tk8 pvs' ivs' pn' icn' U8 D2 hp' hv' hR => ?_)
  obtain ⟨F2, N2, P5⟩ := blk (pre := [[(I, it)], S'.objs w ((mg "__name__").getD .none), [(tA, PySem.W.listOf (c.told ++ [v1]).toArray (c.tn + 1))], [(dA, PySem.W.listOf c.due.toArray c.dn)]]) (l := [(pA, PySem.W.listOf c.pvs.toArray c.pn), (iA, PySem.W.listOf c.ivs.toArray c.icn)]) (l1 := [(pA, PySem.W.listOf pvs'.toArray pn'), (iA, PySem.W.listOf ivs'.toArray icn')]) (R := c.R ++ R1') (Rn := R2)
    (post := [[(a2, PySem.W.listOf us2.toArray uq2)], [(cA, cs)]]) F1 N1 P4 U8 (fun p hp q hq => by
      simp only [List.mem_cons, List.not_mem_nil, or_false] at hp
      rcases hp with rfl | rfl
      · exact fun e => (hR q hq).1 e.symm
      · exact fun e => (hR q hq).2 e.symm)
  clear F1 N1 P4 U8 H hpa hA2 mP hR
  k_steps
  unfold Stop
  rename Fr _ _ _ _ => F1
  rename News _ _ _ _ => N1
  refine happend (News.get N1 (o := PySem.W.listOf c.due.toArray c.dn) (List.mem_flatten.mpr ⟨_, .tail _ (.tail _ (.tail _ (.head _))), .head _⟩)) (by omega) (fun h9 U9 => ?_)
  obtain ⟨F2, N2, P6⟩ := blk (pre := [[(I, it)], S'.objs w ((mg "__name__").getD .none), [(tA, PySem.W.listOf (c.told ++ [v1]).toArray (c.tn + 1))]]) (l := [(dA, PySem.W.listOf c.due.toArray c.dn)]) (l1 := [(dA, PySem.W.listOf (c.due ++ [v2]).toArray (c.dn + 1))]) (R := (c.R ++ R1') ++ R2) (Rn := [])
    (post := [[(pA, PySem.W.listOf pvs'.toArray pn'), (iA, PySem.W.listOf ivs'.toArray icn')], [(a2, PySem.W.listOf us2.toArray uq2)], [(cA, cs)]]) F1 N1 P5 U9 (fun p hp q hq => nomatch hq)
  rw [List.append_nil ((c.R ++ R1') ++ R2)] at N2 P6
  clear F1 N1 P5 U9
  k_steps
  rename Fr _ _ _ _ => F1
  rename News _ _ _ _ => N1
  exact hQ _ _ _ _ (lok_turn (t := t3) (tn' := c.tn + 1) (dn' := c.dn + 1) (pn' := pn') (icn' := icn') (un := uq2) (a := a2) hok hi hst hsl W' D1' hk' hfz' hx' hus2 D2 hp' hv') F1 N1 P6 ⟨rfl, rfl, rfl, rfl, rfl, rfl, rfl, trivial⟩
end
section
set_option maxHeartbeats 800000
theorem path_nil : pathR sl [] = Str.ofString "/" := by decide +kernel
theorem intsAre_get : ∀ {vs : List Value} {ks : List Int} {i : Nat} {v : Value}, IntsAre vs ks → vs[i]? = some v → ∃ k t, v = .int k t ∧ ks[i]? = some k
  | _, _, i, v, .nil, h => by simp at h
  | _, _, 0, v, .cons k t r, h => ⟨k, t, by simpa using h.symm, rfl⟩
  | _, _, i + 1, v, .cons k t r, h => by
    obtain ⟨k', t', e, h'⟩ := intsAre_get r (by simpa using h)
    exact ⟨k', t', e, by simpa using h'⟩
theorem counts_in {ks : List Int} {i : Nat} {k : Int} (h : (ks.map (fun k' => k'.fmod 2560) ++ [40, 12, 41, 3, 69, 55, 60, 2261])[i]? = some k) : ∃ n : Nat, k = n ∧ n < 2560 := by
  have hm := List.mem_of_getElem? h
  have hk : 0 ≤ k ∧ k < 2560 := by
    rcases List.mem_append.mp hm with hm | hm
    · obtain ⟨x, _, rfl⟩ := List.mem_map.mp hm
      exact ⟨Int.fmod_nonneg_of_pos _ (by decide), Int.fmod_lt_of_pos _ (by decide)⟩
    · simp only [List.mem_cons, List.not_mem_nil, or_false] at hm
      rcases hm with rfl | rfl | rfl | rfl | rfl | rfl | rfl | rfl <;> decide
  exact ⟨k.toNat, by omega, by omega⟩
noncomputable def S0 (x dx : Addr) : TS := ⟨[], fun _ => ⟨x, dx, 0, default, none⟩, none⟩
theorem S0_objs (x dx : Addr) (w : World) (pm : Value) : (S0 x dx).objs w pm = [(57, tabObj #[]), (x, foldObj w 65 dx 191 [] 0), (dx, bag0)] := rfl
theorem S0_wf {x dx : Addr} (hb : @LT.lt Nat _ 255 x) : WF (S0 x dx) := by
  have on : ∀ {p : Path}, (S0 x dx).On p → p = [] := fun h => h.cases.resolve_right ((fun e => nomatch e))
  exact ⟨(fun q h => nomatch h), (fun q h => nomatch h), List.nodup_nil, fun p q hp hq _ => (on hp).trans (on hq).symm, fun p q hp hq _ => (on hp).trans (on hq).symm, (fun p z _ h => nomatch h), (fun _ _ h => nomatch h), Nat.zero_le _, fun p _ => hb⟩
theorem lok0 {x dx wA : Addr} {t : Tok} (hb : @LT.lt Nat _ 255 x) : LOk 0 { S := S0 x dx, told := [], tn := 0, due := [], dn := 0, pvs := [], pn := 0, ivs := [], icn := 0, wa := wA, wvs := [], wn := 0, icy := [], ns := [], R := [], st := t } x :=
  ⟨S0_wf hb, .nil, .nil, .nil, (fun n h => nomatch h), Nat.le_refl _, Nat.le_refl _, (fun q h => nomatch h), List.nodup_nil, (fun q h => nomatch h), fun q _ => ⟨(fun e => nomatch e), (fun e => nomatch e)⟩, rfl, rfl, rfl, [], .nil, .nil, (fun d h => nomatch h)⟩
theorem blk_fresh {g h h' : Heap} {L a : Addr} {o : Obj} {m : Str → Option Value} {pre : List (List Row)} {R : List Row} (F : Fr g L h m) (N : News g L h (pre ++ [R]).flatten) (P : (pre ++ [R]).Pairwise Apart) (k : Keeps h h') (n : h.get? a = none) (ob : h'.get? a = some o) :
    Fr g L h' m ∧ News g L h' (pre ++ [R ++ [(a, o)]]).flatten ∧ (pre ++ [R ++ [(a, o)]]).Pairwise Apart := by
  have hna : ∀ e ∈ (pre ++ [R]).flatten, @Ne Nat e.1 a := fun e he q => by
    have := (N e he).1
    rw [show e.1 = a from q, n] at this; cases this
  have N' := news_add k n ob F N
  refine ⟨F.keeps k, fun e he => N' e ?_, ?_⟩
  · simp only [List.flatten_append, List.flatten_cons, List.flatten_nil, List.append_nil, List.mem_append, List.mem_cons, List.not_mem_nil, or_false] at he ⊢
    rcases he with he | he | he
    · exact .inr (.inl he)
    · exact .inr (.inr he)
    · exact .inl he
  · rw [List.pairwise_append] at P ⊢
    refine ⟨P.1, List.pairwise_singleton _ _, fun b hb c hc => ?_⟩
    rw [List.mem_singleton.mp hc]
    refine (P.2.2 b hb R (.head _)).appR fun p hp q hq => ?_
    rw [List.mem_singleton.mp hq]
    exact hna p (List.mem_flatten.mpr ⟨b, List.mem_append_left _ hb, hp⟩)
theorem news_two {g h h' : Heap} {L a b : Addr} {o1 o2 : Obj} {m : Str → Option Value} {news : List Row} (F : Fr g L h m) (N : News g L h news) (k : Keeps h h') (n1 : h.get? a = none) (n2 : h.get? b = none) (e1 : h'.get? a = some o1) (e2 : h'.get? b = some o2) : News g L h' ((a, o1) :: (b, o2) :: news) := fun p hp => by
  rcases List.mem_cons.mp hp with rfl | hp
  · exact news_add k n1 e1 F N _ (.head _)
  · rcases List.mem_cons.mp hp with rfl | hp
    · exact news_add k n2 e2 F N _ (.head _)
    · exact N.keeps k p hp
theorem sub_own {S : TS} {w : World} {pm : Value} {h : Heap} (B : Bears h (S.objs w pm)) : SubBears S w pm h [] := fun q hq _ e he => B e (objs_rec hq he)
theorem pair_it {I : Addr} {it : Obj} {B : List (List Row)} (h : AllNe I B.flatten) (P : B.Pairwise Apart) : ([(I, it)] :: B).Pairwise Apart :=
  List.pairwise_cons.mpr ⟨fun b hb p hp q hq e => by
    rw [List.mem_singleton.mp hp] at e
    exact allNe_mem h q (List.mem_flatten.mpr ⟨b, hb, hq⟩) e.symm, P⟩
theorem off_it {n : String} {I : Addr} {it : Obj} {B : List (List Row)} (P : ([(I, it)] :: B).Pairwise Apart) : OffI n I B.flatten := .of_ne fun p hp => by
  obtain ⟨b, hb, hp⟩ := List.mem_flatten.mp hp
  exact .inr fun e => (List.pairwise_cons.mp P).1 b hb _ (.head _) p hp e.symm
end
section

noncomputable abbrev c00 (x dx wA : Addr) (t : Tok) : LS := { S := S0 x dx, told := [], tn := 0, due := [], dn := 0, pvs := [], pn := 0, ivs := [], icn := 0, wa := wA, wvs := [], wn := 0, icy := [], ns := [], R := [], st := t }
theorem ap1 {a b : Addr} {o p : Obj} (h : @Ne Nat a b) : Apart [(a, o)] [(b, p)] := fun x hx y hy => by rw [List.mem_singleton.mp hx, List.mem_singleton.mp hy]; exact h
theorem apc {a : Row} {l l' : List Row} (h : Apart [a] l') (k : Apart l l') : Apart (a :: l) l' := fun x hx => (List.mem_cons.mp hx).elim (fun e => h x (by rw [e]; exact .head _)) (k x)
theorem apr {a : Row} {l l' : List Row} (h : Apart l [a]) (k : Apart l l') : Apart l (a :: l') := (apc h.symm k.symm).symm
theorem pw7 {a b c d e f : List Row} (ab : Apart a b) (ac : Apart a c) (ad : Apart a d) (ae : Apart a e) (af : Apart a f) (bc : Apart b c) (bd : Apart b d) (be : Apart b e) (bf : Apart b f)
    (cd : Apart c d) (ce : Apart c e) (cf : Apart c f) (de : Apart d e) (df : Apart d f) (ef : Apart e f) : [a, b, c, d, e, f, []].Pairwise Apart := by
  have n : ∀ {l : List Row}, Apart l [] := fun {l} x _ y hy => nomatch hy
  simp [ab, ac, ad, ae, af, bc, bd, be, bf, cd, ce, cf, de, df, ef, n]
theorem start_blocks {g h : Heap} {L : Addr} {w : World} {pm : Value} {dA iA pA wA tA x dx cA : Addr} {cs : Obj} {o1 o2 r1 r2 r3 : Row} {t : Tok} (N : News g L h [o1, (dA, listOf #[] 0), (iA, listOf #[] 0), (pA, listOf #[] 0), (wA, listOf #[] 0), o2, (tA, listOf #[] 0), (x, foldObj w 65 dx 191 [] 0), (dx, bag0), (cA, cs), r1, r2, r3, (57, tabObj #[])]) (hcs : cs.cls = .type "list")
    (h1 : @LT.lt Nat _ 57 cA) (h2 : @LT.lt Nat _ cA tA) (h3 : @LT.lt Nat _ x tA) (h4 : @LT.lt Nat _ dx tA) (h5 : @LT.lt Nat _ tA wA) (h6 : @LT.lt Nat _ wA pA) (h7 : @LT.lt Nat _ pA iA) (h8 : @LT.lt Nat _ iA dA) :
    News g L h ((c00 x dx wA t).blocks w pm tA dA pA iA cA cs).flatten ∧ ((c00 x dx wA t).blocks w pm tA dA pA iA cA cs).Pairwise Apart := by
  have e1 : @Ne Nat cA x := ne_cls N (o1 := cs) (o2 := foldObj w 65 dx 191 [] 0) (by simp) (by simp) (by rw [hcs]; exact (fun e => nomatch e))
  have e2 : @Ne Nat cA dx := ne_cls N (o1 := cs) (o2 := bag0) (by simp) (by simp) (by rw [hcs]; exact (show ¬ Value.type "list" = Value.type "dict" by decide))
  constructor
  · intro e he
    refine N e ?_
    simp only [LS.blocks, S0_objs, List.flatten_cons, List.flatten_nil, List.mem_append, List.mem_cons, List.not_mem_nil, or_false] at he ⊢
    rcases he with (rfl | rfl | rfl) | rfl | rfl | (rfl | rfl) | rfl | rfl <;> simp
  · have f57t := Nat.lt_trans h1 h2
    have f57wA := Nat.lt_trans f57t h5
    have fcAwA := Nat.lt_trans h2 h5
    have fxwA := Nat.lt_trans h3 h5
    have fdxwA := Nat.lt_trans h4 h5
    have ftApA := Nat.lt_trans h5 h6
    have fwAiA := Nat.lt_trans h6 h7
    have fpAdA := Nat.lt_trans h7 h8
    have ftAiA := Nat.lt_trans ftApA h7
    have ftAdA := Nat.lt_trans ftAiA h8
    have fwAdA := Nat.lt_trans fwAiA h8
    have three : ∀ {k : Addr} {o : Obj}, @LT.lt Nat _ wA k ∨ wA = k → Apart ((S0 x dx).objs w pm) [(k, o)] := fun {k o} h => by
      have le : ∀ {a : Nat}, a < wA → a ≠ k := fun {a} l => Nat.ne_of_lt (h.elim (fun e => Nat.lt_trans l e) (fun e => e ▸ l))
      exact apc (ap1 (le f57wA)) (apc (ap1 (le fxwA)) (ap1 (le fdxwA)))
    have pi : ∀ {k : Nat} {o : Obj} {a b : Obj}, k < pA → Apart [(k, o)] [(pA, a), (iA, b)] := fun {k o a b} l => apr (ap1 (Nat.ne_of_lt l)) (ap1 (Nat.ne_of_lt (Nat.lt_trans l h7)))
    exact pw7 (apc (ap1 (Nat.ne_of_lt f57t)) (apc (ap1 (Nat.ne_of_lt h3)) (ap1 (Nat.ne_of_lt h4))))
      (three (.inl fwAdA)) (apr (three (.inl h6)) (three (.inl fwAiA))) (three (.inr rfl))
      (apc (ap1 (Nat.ne_of_lt h1)) (apc (ap1 e1.symm) (ap1 e2.symm)))
      (ap1 (Nat.ne_of_lt ftAdA)) (pi ftApA) (ap1 (Nat.ne_of_lt h5)) (ap1 (Nat.ne_of_lt h2).symm)
      (apr (ap1 (Nat.ne_of_lt fpAdA).symm) (ap1 (Nat.ne_of_lt h8).symm)) (ap1 (Nat.ne_of_lt fwAdA).symm) (ap1 (Nat.ne_of_lt (Nat.lt_trans fcAwA fwAdA)).symm)
      (pi h6).symm (pi (Nat.lt_trans fcAwA h6)).symm
      (ap1 (Nat.ne_of_lt fcAwA).symm)
theorem loop_ct : ∀ {w : World} {dp un : Nat} {fr : Option (List Env)} {gd : Option (List Code)} {s : Shared} {Q : Flow → Shared → Prop} {E : Value → Shared → Prop} {x dx wA tA dA pA iA cA : Addr} {ws : List Value} {ks : List Int} {tk0 : Tok} {L fa : Addr} {cd : Value} {m0 : Str → Option Value}
   {p loose mean mg mb} {g : Heap} {oc od an osl name qual params a1 a2 a3 tg ite fb oe ps rest scope dV kV doc pm cdv ct}
   (hb : (K2 w.params).lookup 255 = some ⟨oc, od, .func (fnOf name qual params (a1 :: a2 :: a3 :: .For tg ite fb oe ps :: rest) scope dV kV doc pm an cdv ct), osl⟩)
   (X : (K2 w.params).In g) (TT : Top p loose mean mg mb g) (CH : CodeHd g 61 57)
   (F : Fr g L s.heap m0) (N : News g L s.heap ((c00 x dx wA tk0).blocks w ((mg "__name__").getD .none) tA dA pA iA cA (listOf ws.toArray 0)).flatten ∧ ((c00 x dx wA tk0).blocks w ((mg "__name__").getD .none) tA dA pA iA cA (listOf ws.toArray 0)).Pairwise Apart) (hm : AllAt m0 ((c00 x dx wA tk0).ps tA dA pA iA x))
   (hbig : @LT.lt Nat _ 255 x) (hI : IntsAre ws (ks.map (fun k' => k'.fmod 2560) ++ [40, 12, 41, 3, 69, 55, 60, 2261])) (hl : ws.length ≤ 16) (hpi : @Ne Nat pA iA) (hdp : dp + 250 < 1000) (hu : un + 2000 < 9900)
   (hQ : ∀ c i h' tk u, i ≤ 16 → LOk i c x → Fr g L h' (chain (c.ps tA dA pA iA x) u) → News g L h' (c.blocks w ((mg "__name__").getD .none) tA dA pA iA cA (listOf ws.toArray 0)).flatten → (c.blocks w ((mg "__name__").getD .none) tA dA pA iA cA (listOf ws.toArray 0)).Pairwise Apart → Q .next { s with heap := h', toks := tk })
   , wpAny (model PySem.Challenge.rw_il0142_02.row.prog w) ((Ar dp un fr gd).deeper (envOf qual scope L fa cd)) (pyIter (.ref cA)) (fun it s₂ => LoopAtV PySem.Challenge.rw_il0142_02.row.prog w ((Ar dp un fr gd).deeper (envOf qual scope L fa cd)) g (envOf qual scope L fa cd) (Str.ofString "count") fb Q E it s₂) E s := by
  k_fill
  intro w dp un fr gd s Q E x dx wA tA dA pA iA cA ws ks tk0 L fa cd m0 p loose mean mg mb g oc od an osl name qual params a1 a2 a3 tg ite fb oe ps rest scope dV kV doc pm cdv ct hb X TT CH F N hm hbig hI hl hpi hdp hu hQ
  refine for_list2 (σ := LS) (l := cA) (vs := ws) (nn := 0) (fun c => (c.blocks w ((mg "__name__").getD .none) tA dA pA iA cA (listOf ws.toArray 0)).flatten) (fun c => c.ps tA dA pA iA x)
    (fun i c => LOk i c x ∧ (c.blocks w ((mg "__name__").getD .none) tA dA pA iA cA (listOf ws.toArray 0)).Pairwise Apart) (c00 x dx wA tk0) rfl (.inl fun c => List.mem_flatten.mpr ⟨[(cA, listOf ws.toArray 0)], by simp [LS.blocks], .head _⟩) F N.1 (Sub.of_mem fun e he => he) hm ⟨lok0 hbig, N.2⟩ ?_ ?_
  · intro i v c h tk I it u hv hP F' N' hcl hne
    obtain ⟨hok, P⟩ := hP
    obtain ⟨k, t, rfl, hk⟩ := intsAre_get hI hv
    obtain ⟨n, rfl, hn⟩ := counts_in hk
    have hi : i < 16 := by have := (List.getElem?_eq_some_iff.mp hv).1; omega
    refine turn_ct hb X TT (topRead_of TT) CH F' N' (pair_it hne P) hok hi hn hpi hdp hu (fun c' h' tk m' hok' F2 N2 P2 hps => ?_)
    exact TEnd2.intro c' F2 N2 (Sub.of_mem fun e he => List.mem_flatten.mpr (by
      obtain ⟨b, hb, he⟩ := List.mem_flatten.mp he
      exact ⟨b, .tail _ hb, he⟩)) (List.mem_flatten.mpr ⟨_, .head _, .head _⟩) (off_it P2) hps ⟨hok', (List.pairwise_cons.mp P2).2⟩
  · intro c h tk u hP F' N'
    exact hQ c _ h tk u hl hP.1 F' N' hP.2
end
section

theorem lit_rest {K : Frag} {f : Addr} {P : List Stmt → Str → Scope → Prop} {oc od an osl name qual params a1 a2 a3 a4 rest scope dV kV doc pm cdv ct}
    {oc' od' an' osl' name' qual' params' a1' a2' a3' a4' rest' scope' dV' kV' doc' pm' cdv' ct'}
    (h1 : K.lookup f = some ⟨oc, od, .func (fnOf name qual params (a1 :: a2 :: a3 :: a4 :: rest) scope dV kV doc pm an cdv ct), osl⟩)
    (h2 : K.lookup f = some ⟨oc', od', .func (fnOf name' qual' params' (a1' :: a2' :: a3' :: a4' :: rest') scope' dV' kV' doc' pm' an' cdv' ct'), osl'⟩)
    (h : P rest' qual' scope') : P rest qual scope := by
  have e := Option.some.inj (h1.symm.trans h2)
  injection e with _ _ e3 _
  injection e3 with e4
  have b1 := congrArg FuncData.body e4
  have b2 : qual = qual' := congrArg FuncData.qualname e4
  have b3 : scope = scope' := congrArg FuncData.scope e4
  simp only [fnOf, FuncBody.stmts.injEq, List.cons.injEq] at b1
  rw [b1.2.2.2.2, b2, b3]; exact h
theorem tail_ct : ∀ {w : World} {dp un : Nat} {fr : Option (List Env)} {gd : Option (List Code)} {s : Shared} {Q : Flow → Shared → Prop} {E : Value → Shared → Prop} {c : LS} {i : Nat} {x0 tA dA pA iA cA : Addr} {cs : Obj} {u : Str → Option Value} {L fa : Addr} {cd : Value}
   {p loose mean mg mb} {g : Heap} {oc od an osl name qual params a1 a2 a3 a4 rest scope dV kV doc pm cdv ct}
   (hb : (K2 w.params).lookup 255 = some ⟨oc, od, .func (fnOf name qual params (a1 :: a2 :: a3 :: a4 :: rest) scope dV kV doc pm an cdv ct), osl⟩)
   (X : (K2 w.params).In g) (TT : Top p loose mean mg mb g)
   (F : Fr g L s.heap (chain (c.ps tA dA pA iA x0) u)) (N : News g L s.heap (c.blocks w ((mg "__name__").getD .none) tA dA pA iA cA cs).flatten) (P : (c.blocks w ((mg "__name__").getD .none) tA dA pA iA cA cs).Pairwise Apart)
   (hok : LOk i c x0) (hi : i ≤ 16) (hdp : dp + 250 < 1000) (hu : un + 2000 < 9900)
   (hQ : ∀ h' tk m' ps, Fr g L h' m' → News g L h' [(57, tabObj ps)] → Q (.ret (.bool true)) { s with heap := h', toks := tk })
   , wpAny (model PySem.Challenge.rw_il0142_02.row.prog w) ((Ar dp un fr gd).deeper (envOf qual scope L fa cd)) (execs rest (envOf qual scope L fa cd)) Q E s := by
  k_fill
  intro w dp un fr gd s Q E c i x0 tA dA pA iA cA cs u L fa cd p loose mean mg mb g oc od an osl name qual params a1 a2 a3 a4 rest scope dV kV doc pm cdv ct hb X TT F N P hok hi hdp hu hQ
  refine' lit_rest (P := fun b q sc => wpAny (model PySem.Challenge.rw_il0142_02.row.prog w) ((Ar dp un fr gd).deeper (envOf q sc L fa cd)) (execs b (envOf q sc L fa cd)) Q E s) hb ?lit ?_
  case lit => k_is
  clear hb
  try dsimp only
  have T := topRead_of TT
  obtain rfl := hok.top
  have hkl := hok.kl
  have htl := hok.tl
  have hdl := hok.dl
  have hkx : ∀ q ∈ c.S.kept, (pathR sl q).length ≤ 1000 := fun q hq => by
    have h1 := ab_len (hok.kab q hq)
    have h2 := (hok.wf.ok q hq).2.2
    omega
  dsimp only [chain, LS.ps] at F
  try k_fold
  k_steps
  unfold Stop
  rename Fr _ _ _ _ => F1
  rename News _ _ _ _ => N1
  refine getMethod_list_append (News.get N1 (o := PySem.W.listOf c.told.toArray c.tn) (List.mem_flatten.mpr ⟨_, .tail _ (.head _), .head _⟩)) rfl rfl ?_
  k_steps
  unfold Stop
  rename Fr _ _ _ _ => F1
  rename News _ _ _ _ => N1
  rw [← path_nil]
  have hB : Bears _ (c.S.objs w ((mg "__name__").getD .none)) := bears_of N1 fun e he => List.mem_flatten.mpr ⟨_, .head _, he⟩
  refine WrittenOk.use (written_ct 61) (X.keeps F1.keep) (T.keeps F1.keep) (by walk_at "my room") (by walk_at "my room") hok.wf .nil (sub_own hB) hkx (fun q hq => by have := (hok.wf.ok q hq).2.2; simp only [List.length_nil]; omega) (fun a1 us1 un1 h1 tk1 k1 n1 o1 hus1 => ?_)
  obtain ⟨F2, N2, P2⟩ := blk_fresh (pre := [c.S.objs w ((mg "__name__").getD .none), [(tA, PySem.W.listOf c.told.toArray c.tn)], [(dA, PySem.W.listOf c.due.toArray c.dn)], [(pA, PySem.W.listOf c.pvs.toArray c.pn), (iA, PySem.W.listOf c.ivs.toArray c.icn)], [(c.wa, PySem.W.listOf c.wvs.toArray c.wn)], [(cA, cs)]]) (R := c.R) F1 N1 P k1 n1 o1
  clear F1 N1 P k1 n1 o1 hB
  k_steps
  unfold Stop
  rename Fr _ _ _ _ => F1
  rename News _ _ _ _ => N1
  refine happend (News.get N1 (o := PySem.W.listOf c.told.toArray c.tn) (List.mem_flatten.mpr ⟨_, .tail _ (.head _), .head _⟩)) (by omega) (fun h6 U6 => ?_)
  obtain ⟨F2, N2, P3⟩ := blk (pre := [c.S.objs w ((mg "__name__").getD .none)]) (l := [(tA, PySem.W.listOf c.told.toArray c.tn)]) (l1 := [(tA, PySem.W.listOf (c.told ++ [Value.ref a1]).toArray (c.tn + 1))]) (R := c.R ++ [(a1, PySem.W.listOf us1.toArray un1)]) (Rn := [])
    (post := [[(dA, PySem.W.listOf c.due.toArray c.dn)], [(pA, PySem.W.listOf c.pvs.toArray c.pn), (iA, PySem.W.listOf c.ivs.toArray c.icn)], [(c.wa, PySem.W.listOf c.wvs.toArray c.wn)], [(cA, cs)]]) F1 N1 P2 U6 (fun p hp q hq => nomatch hq)
  rw [List.append_nil (c.R ++ _)] at N2 P3
  clear F1 N1 P2 U6
  k_steps
  unfold Stop
  rename Fr _ _ _ _ => F1
  rename News _ _ _ _ => N1
  refine getMethod_list_append (News.get N1 (o := PySem.W.listOf c.due.toArray c.dn) (List.mem_flatten.mpr ⟨_, .tail _ (.tail _ (.head _)), .head _⟩)) rfl rfl ?_
  k_steps
  unfold Stop
  rename Fr _ _ _ _ => F1
  rename News _ _ _ _ => N1
  refine BelowOk.use (below_ct 61) (X.keeps F1.keep) (T.keeps F1.keep) (by walk_at "my room") (by walk_at "my room") (fun q hq => ⟨(hok.wf.ok q hq).1, (hok.wf.ok q hq).2.1, hkx q hq⟩) hok.wf.nd (fun n hn => nomatch hn) (by omega) (fun q hq => by have := (hok.wf.ok q hq).2.2; simp only [List.length_nil]; omega) (News.get N1 (o := PySem.W.listOf c.pvs.toArray c.pn) (List.mem_flatten.mpr ⟨_, .tail _ (.tail _ (.tail _ (.head _))), .head _⟩)) hok.pv (fun a2 us2 un2 h2 tk2 k2 n2 o2 hus2 => ?_)
  obtain ⟨F2, N2, P4⟩ := blk_fresh (pre := [c.S.objs w ((mg "__name__").getD .none), [(tA, PySem.W.listOf (c.told ++ [Value.ref a1]).toArray (c.tn + 1))], [(dA, PySem.W.listOf c.due.toArray c.dn)], [(pA, PySem.W.listOf c.pvs.toArray c.pn), (iA, PySem.W.listOf c.ivs.toArray c.icn)], [(c.wa, PySem.W.listOf c.wvs.toArray c.wn)], [(cA, cs)]]) (R := c.R ++ [(a1, PySem.W.listOf us1.toArray un1)]) F1 N1 P3 k2 n2 o2
  clear F1 N1 P3 k2 n2 o2
  k_steps
  unfold Stop
  rename Fr _ _ _ _ => F1
  rename News _ _ _ _ => N1
  refine happend (News.get N1 (o := PySem.W.listOf c.due.toArray c.dn) (List.mem_flatten.mpr ⟨_, .tail _ (.tail _ (.head _)), .head _⟩)) (by omega) (fun h6 U6 => ?_)
  obtain ⟨F2, N2, P5⟩ := blk (pre := [c.S.objs w ((mg "__name__").getD .none), [(tA, PySem.W.listOf (c.told ++ [Value.ref a1]).toArray (c.tn + 1))]]) (l := [(dA, PySem.W.listOf c.due.toArray c.dn)]) (l1 := [(dA, PySem.W.listOf (c.due ++ [Value.ref a2]).toArray (c.dn + 1))]) (R := (c.R ++ [(a1, PySem.W.listOf us1.toArray un1)]) ++ [(a2, PySem.W.listOf us2.toArray un2)]) (Rn := [])
    (post := [[(pA, PySem.W.listOf c.pvs.toArray c.pn), (iA, PySem.W.listOf c.ivs.toArray c.icn)], [(c.wa, PySem.W.listOf c.wvs.toArray c.wn)], [(cA, cs)]]) F1 N1 P4 U6 (fun p hp q hq => nomatch hq)
  rw [List.append_nil ((c.R ++ _) ++ _)] at N2 P5
  clear F1 N1 P4 U6
  k_steps
  unfold Stop
  rename Fr _ _ _ _ => F1
  rename News _ _ _ _ => N1
  obtain ⟨ds, d1, d2, d3⟩ := hok.dat
  have sR : ∀ e ∈ (c.R ++ [(a1, PySem.W.listOf us1.toArray un1)]) ++ [(a2, PySem.W.listOf us2.toArray un2)], e ∈ (([c.S.objs w ((mg "__name__").getD .none), [(tA, PySem.W.listOf (c.told ++ [Value.ref a1]).toArray (c.tn + 1))]] ++ [(dA, PySem.W.listOf (c.due ++ [Value.ref a2]).toArray (c.dn + 1))] :: ([[(pA, PySem.W.listOf c.pvs.toArray c.pn), (iA, PySem.W.listOf c.ivs.toArray c.icn)], [(c.wa, PySem.W.listOf c.wvs.toArray c.wn)], [(cA, cs)]] ++ [(c.R ++ [(a1, PySem.W.listOf us1.toArray un1)]) ++ [(a2, PySem.W.listOf us2.toArray un2)]])) : List (List Row)).flatten :=
    fun e he => List.mem_flatten.mpr ⟨_, .tail _ (.tail _ (.tail _ (.tail _ (.tail _ (.tail _ (.head _)))))), he⟩
  have s0 : ∀ e ∈ c.R, e ∈ (c.R ++ [(a1, PySem.W.listOf us1.toArray un1)]) ++ [(a2, PySem.W.listOf us2.toArray un2)] := fun e he => List.mem_append_left _ (List.mem_append_left _ he)
  refine kb_eq (xs := c.told ++ [Value.ref a1]) (ys := c.due ++ [Value.ref a2]) (ds := ds ++ [.list ((belowS 61 c.S.kept []).map fun q => .str (pathR sl q))]) N1 (List.mem_flatten.mpr ⟨_, .tail _ (.head _), .head _⟩) rfl rfl
    (datAll_snoc (d1.mono s0) (.list (List.mem_append_left _ (List.mem_append_right _ (.head _))) (datAll_strs _ hus1))) sR
    (List.mem_flatten.mpr ⟨_, .tail _ (.tail _ (.head _)), .head _⟩) rfl rfl
    (datAll_snoc (d2.mono s0) (.list (List.mem_append_right _ (.head _)) (datAll_strs _ hus2))) sR (fun d hd => ?_) (by show _ < 9900; walk_at "my room") ?_
  · rcases List.mem_append.mp hd with hd | hd
    · exact d3 d hd
    · rw [List.mem_singleton.mp hd]
      show List.all _ _ = true
      rw [List.all_eq_true]
      intro d hd
      obtain ⟨q, hq, rfl⟩ := List.mem_map.mp hd
      exact ab_strOk (hok.kab q (below_mem 61 c.S.kept [] q hq).1)
  obtain ⟨ps, hps⟩ : ∃ ps, (57, tabObj ps) ∈ codeObjs c.S.code := by
    unfold codeObjs
    split
    · exact ⟨_, .head _⟩
    · exact ⟨_, .head _⟩
  have N3 : News g L _ [(57, tabObj ps)] := News.less N1 fun e he => by
    rw [List.mem_singleton.mp he]
    exact List.mem_flatten.mpr ⟨_, .head _, objs_code hps⟩
  clear N1 sR s0
  k_steps
  rename Fr _ _ _ _ => F1
  rename News _ _ _ _ => N1
  exact hQ _ _ _ ps F1 N1
end
section

set_option pp.maxSteps 4000
theorem law_holds : PySem.Challenge.rw_il0142_02.Holds := by
  w_on
  refine holds_law ws fun said => ?_
  refine holds_open (q := view2) (loose := []) (Xt := fun s => xlAt view2 [] s && recOk (RowW.records r2) s) (XP := XL view2 []) (Yf := Hook.obs (kmHook K2 as2 (fun _ => rfl) [57])) (Ya := Hook.val (kmHook K2 as2 (fun _ => rfl) [57])) (YP := Hook.says (kmHook K2 as2 (fun _ => rfl) [57])) (N := 3176) left2 (Hook.of (kmHook K2 as2 (fun _ => rfl) [57])) (Hook.keeps (kmHook K2 as2 (fun _ => rfl) [57])) (fun s e => xl_of s (Bool.and_eq_true_iff.mp e).1) XL.keeps (by rfl) (by rfl) (by rfl) (fun s e => recFacts_of (Bool.and_eq_true_iff.mp e).2) (by rfl) (by first | assumption | decide +kernel) (by decide +kernel) ⟨rfl, rfl, rfl, rfl, rfl, by decide +kernel⟩ ?hw ?hc
  case hw => w_witness2
  clear said
  k_go0
  all_goals try k_fold
  k_steps
  unfold Stop
  rename Fr _ _ _ _ => F1
  rename News _ _ _ _ => N1
  rename Frag.In _ _ => X
  rename Top _ _ _ _ _ _ => TT
  have T := topRead_of TT
  refine folder_ct (X.keeps F1.keep) (T.keeps F1.keep) (by decide +kernel) (by decide +kernel) (fun x dx h' tk' k1 n1 n2 ne o1 o2 big hz => ?_)
  have F2 := F1.keeps k1
  have N2 := news_two F1 N1 k1 n1 n2 o1 o2
  clear F1 N1 k1 n1 n2 o1 o2 hz
  k_steps
  unfold Stop
  rename_i cA ws _ hI l7 _ _ tA _ l6 _ _ _ _ _ _ _ _ wA _ l4 pA _ l3 iA _ l2 dA _ l1 _ _ l0 _ _ _ _ _ F N
  refine loop_ct (tk0 := tk') (by k_is) X TT codeHd F (start_blocks N rfl (by omega) (by omega) (by omega) (by omega) (by omega) (by omega) (by omega) (by omega)) ⟨by show _ = some (Value.str (pathR sl []) _); rw [path_nil]; rfl, rfl, rfl, rfl, rfl, rfl, rfl, trivial⟩ big hI ?hl (by omega) (by decide +kernel) (by decide +kernel) (fun c i h tk u hi hok F' N' P' => ?_)
  case hl =>
    have := hI.length
    rw [this, List.length_append, List.length_map, List.length_take]; simp only [List.length_cons, List.length_nil]; omega
  refine tail_ct (by k_is) X TT F' N' P' hok hi (by decide +kernel) (by decide +kernel) (fun h2 tk2 m2 ps F2 N2 => ?_)
  clear F N F' N' P' hok hi
  k_steps
end
end
end Mine
theorem PySem.Challenge.cw_il0142_02_holds : PySem.Challenge.rw_il0142_02.Holds := by
  exact Mine.law_holds
