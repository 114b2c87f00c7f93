import PyProof.Rows.All
import Wide.All
import OpenK.AllK
import Wide.FinOn
import Lean
import PySem.Challenge.RW_ij0051_01
open PySem PySem.W PySem.Calls PyProof.Rows
set_option Elab.async false
set_option rowWalk.seconds 0
set_option maxRecDepth 100000
set_option maxHeartbeats 8000000
namespace Mine
section
local macro_rules | `(tactic| o_head $_) => `(tactic| assumption)
/-- leaves `pre.heap_1`, the top's objects written out, in the environment -/
theorem pre (zh : PySem.Challenge.rw_ij0051_01.row.Holds) : PySem.Challenge.rw_ij0051_01.row.Holds := by k_head
end
/-- the statements of the text that the head keeps -/
noncomputable def VV : Program := view PySem.Challenge.pw_ij0051_01 [0, 2, 6, 8, 10, 11, 13, 15, 17, 18, 19, 20, 21, 23, 24, 25, 26, 27, 28]
def recBy {n : Str} {d : DefRec} {k : List (Str × PySem.Expr)} (_ : defOf VV n = some (d, k)) : DefRec := d
noncomputable def lawRec : DefRec := recBy (n := Str.ofString "law") rfl
local macro_rules | `(tactic| k_mem) => `(tactic| (first | assumption | exact (List.Mem.tail _ (by assumption)) | exact (List.Mem.tail _ (List.Mem.tail _ (by assumption))) | exact (List.Mem.tail _ (List.Mem.tail _ (List.Mem.tail _ (by assumption)))) | exact (List.Mem.tail _ (List.Mem.tail _ (List.Mem.tail _ (List.Mem.tail _ (by assumption))))) | exact (List.Mem.tail _ (List.Mem.tail _ (List.Mem.tail _ (List.Mem.tail _ (List.Mem.tail _ (by assumption)))))) | exact (List.mem_append_left _ (by assumption)) | exact (List.Mem.tail _ (List.mem_append_left _ (by assumption))) | exact (List.Mem.tail _ (List.Mem.tail _ (List.mem_append_left _ (by assumption)))) | exact (List.Mem.tail _ (List.Mem.tail _ (List.Mem.tail _ (List.mem_append_left _ (by assumption)))))))
abbrev Led := List (Addr × Obj)

/-- a call of the text's def at f: what it hands back (a value and what it has made), whatever stands around it -/
abbrev Tells0 (w : World) (mean : ExcName → Option Value) (mg mb : Str → Option Value) (tk0 dd uu : Nat) (f : Addr) (news : Led) (vs : List Value) (Ret : Value → Led → Prop) : Prop :=
  ∀ (dp un : Nat) (gd : Option (List Code)) (cn : Str) (cs : Scope) (a : Addr) (ccd : Value) (cl : List (Str × Addr)) (outer : List Env) (A₀ : Around) (base h₀ : Heap) (L : Addr) (m : Str → Option Value) (s : Shared) (Q E : Value → Shared → Prop),
    Below A₀ base outer h₀ → Fr h₀ L s.heap m → (pre.heap_1 w.params).In h₀ → News h₀ L s.heap news →
    Top VV (looseW VV [Str.ofString "escape", Str.ofString "unescape"]) mean mg mb h₀ → cs.kind = .function →
    dp + dd < recursionLimit → un + uu < cLine → tk0 ≤ s.toks →
    (∀ r tl h' tk', Fr h₀ L h' m → News h₀ L h' (tl ++ news) → Ret r tl → Q r { s with heap := h', toks := tk' }) →
    wpAny (model PySem.Challenge.rw_ij0051_01.row.prog w) (ktrTop dp un gd cn cs L a ccd cl outer) (call (.ref f) vs) Q E s

abbrev Tells (w : World) (mean : ExcName → Option Value) (mg mb : Str → Option Value) (tk0 dd uu : Nat) (f : Addr) (news : Led) (vs : List Value) (Ret : Value → Led → Prop) : Prop :=
  ∀ (dp un : Nat) (gd : Option (List Code)) (cn : Str) (cs : Scope) (a : Addr) (ccd : Value) (cl : List (Str × Addr)) (outer : List Env) (A₀ : Around) (base h₀ : Heap) (L : Addr) (m : Str → Option Value) (s : Shared) (Q E : Value → Shared → Prop),
    Below A₀ base outer h₀ → Fr h₀ L s.heap m → (pre.heap_1 w.params).In h₀ → News h₀ L s.heap news →
    Top VV (looseW VV [Str.ofString "escape", Str.ofString "unescape"]) mean mg mb h₀ → cs.kind = .function →
    dp + dd < recursionLimit → un + uu < cLine → tk0 ≤ s.toks →
    (∀ r tl h' tk', Fr h₀ L h' m → News h₀ L h' (tl ++ news) → tk0 ≤ tk' → Ret r tl → Q r { s with heap := h', toks := tk' }) →
    wpAny (model PySem.Challenge.rw_ij0051_01.row.prog w) (ktrTop dp un gd cn cs L a ccd cl outer) (call (.ref f) vs) Q E s

theorem Tells.of {w : World} {mean : ExcName → Option Value} {mg mb : Str → Option Value} {tk0 dd uu : Nat} {f : Addr} {news : Led} {vs : List Value} {Ret : Value → Led → Prop}
    (h : Tells0 w mean mg mb tk0 dd uu f news vs Ret) : Tells w mean mg mb tk0 dd uu f news vs Ret := by
  intro dp un gd cn cs a ccd cl outer A₀ base h₀ L m s Q E B F X N T hk hd hu htk hret
  refine wpAny_with_toks htk ?_
  exact h dp un gd cn cs a ccd cl outer A₀ base h₀ L m s _ _ B F X N T hk hd hu htk fun r tl h' tk' F' N' R hle => hret r tl h' tk' F' N' hle R

theorem Tells.use {w : World} {mean : ExcName → Option Value} {mg mb : Str → Option Value} {tk0 dd uu : Nat} {f : Addr} {news : Led} {vs : List Value} {Ret : Value → Led → Prop}
    {dp un : Nat} {gd : Option (List Code)} {cn : Str} {cs : Scope} {a : Addr} {ccd : Value} {cl : List (Str × Addr)} {outer : List Env} {A₀ : Around} {base h₀ : Heap} {L : Addr} {m : Str → Option Value} {s : Shared} {Q E : Value → Shared → Prop}
    (C : Tells w mean mg mb tk0 dd uu f news vs Ret)
    (B : Below A₀ base outer h₀) (F : Fr h₀ L s.heap m) (X : (pre.heap_1 w.params).In h₀) (N : News h₀ L s.heap news)
    (T : Top VV (looseW VV [Str.ofString "escape", Str.ofString "unescape"]) mean mg mb h₀) (hk : cs.kind = .function)
    (hd : dp + dd < recursionLimit) (hu : un + uu < cLine) (htk : tk0 ≤ s.toks)
    (ret : ∀ r tl h' tk', Fr h₀ L h' m → News h₀ L h' (tl ++ news) → tk0 ≤ tk' → Ret r tl → Q r { s with heap := h', toks := tk' }) :
    wpAny (model PySem.Challenge.rw_ij0051_01.row.prog w) (ktrTop dp un gd cn cs L a ccd cl outer) (call (.ref f) vs) Q E s :=
  C _ _ _ _ _ _ _ _ _ _ _ _ _ _ _ _ _ B F X N T hk hd hu htk ret

/-- hands back one text -/
abbrev RStr (x : Str) (r : Value) (tl : Led) : Prop := ∃ t, r = .str x t ∧ tl = []

theorem Tells.useS {w : World} {mean : ExcName → Option Value} {mg mb : Str → Option Value} {tk0 dd uu : Nat} {f : Addr} {news : Led} {vs : List Value} {x : Str}
    {dp un : Nat} {gd : Option (List Code)} {cn : Str} {cs : Scope} {a : Addr} {ccd : Value} {cl : List (Str × Addr)} {outer : List Env} {A₀ : Around} {base h₀ : Heap} {L : Addr} {m : Str → Option Value} {s : Shared} {Q E : Value → Shared → Prop}
    (B : Below A₀ base outer h₀) (F : Fr h₀ L s.heap m) (X : (pre.heap_1 w.params).In h₀) (N : News h₀ L s.heap news)
    (T : Top VV (looseW VV [Str.ofString "escape", Str.ofString "unescape"]) mean mg mb h₀) (hk : cs.kind = .function)
    (C : Tells w mean mg mb tk0 dd uu f news vs (RStr x))
    (hd : dp + dd < recursionLimit) (hu : un + uu < cLine) (htk : tk0 ≤ s.toks)
    (ret : ∀ t h' tk', Fr h₀ L h' m → News h₀ L h' news → tk0 ≤ tk' → Q (.str x t) { s with heap := h', toks := tk' }) :
    wpAny (model PySem.Challenge.rw_ij0051_01.row.prog w) (ktrTop dp un gd cn cs L a ccd cl outer) (call (.ref f) vs) Q E s :=
  C.use B F X N T hk hd hu htk fun r tl h' tk' F' N' ht ⟨t, e1, e2⟩ => by subst e1 e2; exact ret t h' tk' F' N' ht

section
variable {prog : Program} {w : World} {A : Around} {E : Value → Shared → Prop} {s : Shared}
theorem kind_issub_nested : builtinKind "issubclass.nested" = none := by decide +kernel
theorem plain_issub_nested : plainId "issubclass.nested" = true := by decide +kernel
theorem args_issub_nested (a b c : Value) : argsOk "issubclass.nested" ⟨[a, b, c], []⟩ := by unfold argsOk; kernel_rfl
theorem sub_str_str : isSubtype (.type "str") (.type "str") = pure true := by rw [isSubtype_type]; kernel_rfl
theorem ty_str : typeOf (.type "str") = pure (.type "type") := by kernel_rfl
theorem code_function_meets {id : String} {B : Builtin} {args : List Value} {S : PySem.Spec} {R : Result → Shared → Prop} (kind : builtinKind id = none) (plain : plainId id = true)
    (entry : entryFor table id = some B) (ok : argsOk id ⟨args, []⟩) (g : Meets (B ⟨args, []⟩) S) (h : S A R s) : codeAny (model prog w) A (.call (.builtin id) ⟨args, []⟩) R s := by
  refine codeAny_call_builtin plain entry ?_
  have hfin := g prog w A R s h
  simp only [checkBuiltinCall, kind]
  cases hsig : Manifest.signature? id with
  | none => exact wpAny_pure hfin
  | some sig =>
    simp only [argsOk, hsig] at ok
    have h2 : Bind.checkArgs id sig ⟨args, []⟩ = pure () := ok
    show wpAny _ _ (Bind.checkArgs id sig ⟨args, []⟩) _ _ s
    rw [h2]; exact wpAny_pure hfin
theorem issub_str_str (dep : Int) (tk : Tok) : Meets (Builtin.«issubclass.nested» ⟨[.type "str", .type "str", .int dep tk], []⟩) (fun _ R s => R (.ok (.ret (.bool true))) s) :=
  fun prog w A R s hs => by
    have f1 := ty_str
    have f2 := sub_str_str
    repeat (any_goals (first | assumption | wp_step))
theorem issub_nested {tp : Addr} {tk : Tok} {s : Shared} {Q : PySem.Fin → Shared → Prop}
    (htp : s.heap.get? tp = some { cls := .type "tuple", data := .seq #[.type "str", .type "bytes"] })
    (hq : Q (.done (.ret (.bool true))) s) : wpAny (model prog w) A (Builtin.«issubclass.nested» ⟨[.type "str", .ref tp, .int 0 tk], []⟩) Q E s := by
  obtain ⟨h, g, d, t, os⟩ := s
  have hT2 : (⟨h, g, d, t, os⟩ : Shared).TypeIs (.ref tp) "tuple" := ⟨_, htp, rfl⟩
  have f1 := F.isi_sub_tuple
  repeat (any_goals (first | assumption | wp_step))
  refine code_function_meets kind_issub_nested plain_issub_nested F.entry_issubclass_nested (args_issub_nested _ _ _) (issub_str_str _ _) ?_
  show wpAny _ _ (truthy (.bool true) >>= _) _ _ _
  refine wpAny_bind (m := truthy (.bool true)) (wpAny_pure ?_)
  repeat (any_goals (first | assumption | wp_step))
theorem call_issub {tp : Addr} {s : Shared} {Q : Value → Shared → Prop}
    (htp : s.heap.get? tp = some { cls := .type "tuple", data := .seq #[.type "str", .type "bytes"] })
    (hq : Q (.bool true) s) : wpAny (model prog w) A (call (.builtin "issubclass") [.type "str", .ref tp]) Q E s :=
  call_issubclass (S := fun _ R s => s.heap.get? tp = some { cls := .type "tuple", data := .seq #[.type "str", .type "bytes"] } ∧ R (.ok (.ret (.bool true))) s)
    (fun _ _ _ _ _ hs => issubclass_outer (issub_nested hs.1 hs.2)) ⟨htp, hq⟩
end

theorem news_drop {h₀ h : Heap} {L : Addr} {news news' : Led} (N : News h₀ L h news') (hs : ∀ p ∈ news, p ∈ news') : News h₀ L h news := fun p hp => N p (hs p hp)


theorem getsep_ok {w : World} {mean : ExcName → Option Value} {mg mb : Str → Option Value} {news : List (Addr × Obj)} (x : Str) (t : Tok) :
    Tells w mean mg mb 0 1 8 133 news [.str x t] (RStr (Str.ofString "/")) := by
  w_on
  w_strict (
    refine Tells.of ?_
    unfold Tells0
    k_fill
    intro dp un gd cn cs a ccd cl outer A₀ base h₀ L m s Q E B F X N T hk hd hu htk hret
    refine wpAny_call ?_
    k_dflt cell_enter
    repeat' ((fail_if_success (with_reducible show wpAny _ _ (pyIter _) _ _ _)); ((first | ((with_reducible show wpAny _ _ (call (Value.builtin "issubclass") _) _ _ _); (k_here; k_dflt (refine' call_issub ?k1Qz ?_; (case k1Qz => exact News.get (by k_asm) (by k_mem)); k_whole))) | walk1) <;> (try dsimp only)))
    all_goals exact hret _ [] _ _ (by k_asm) (by k_asm) ⟨_, rfl, rfl⟩)

theorem fspath_ok {w : World} {mean : ExcName → Option Value} {mg mb : Str → Option Value} {news : List (Addr × Obj)} (x : Str) (t : Tok) :
    Tells w mean mg mb 0 1 8 119 news [.str x t] (RStr x) := by
  w_on
  w_strict (
    refine Tells.of ?_
    unfold Tells0
    k_fill
    intro dp un gd cn cs a ccd cl outer A₀ base h₀ L m s Q E B F X N T hk hd hu htk hret
    refine wpAny_call ?_
    k_dflt cell_enter
    repeat' ((fail_if_success (with_reducible show wpAny _ _ (pyIter _) _ _ _)); ((first | ((with_reducible show wpAny _ _ (call (Value.builtin "issubclass") _) _ _ _); (k_here; k_dflt (refine' call_issub ?k1Qz ?_; (case k1Qz => exact News.get (by k_asm) (by k_mem)); k_whole))) | walk1) <;> (try dsimp only)))
    all_goals exact hret _ [] _ _ (by k_asm) (news_drop (by k_asm) fun p hp => .tail _ hp) ⟨_, rfl, rfl⟩)
theorem RStr.of {x y : Str} {t : Tok} (e : y = x) : RStr x (.str y t) [] := ⟨t, by rw [e], rfl⟩
section
variable {prog : Program} {w : World} {A : Around} {E : Value → Shared → Prop} {s : Shared} {env : Env} {h₀ : Heap} {x : Str} {body : List Stmt} {Q : Flow → Shared → Prop}

/-- a turn's end: the state named by mk and led, what the loop runs over untouched -/
inductive StEnd {σ : Type} (h₀ : Heap) (L : Addr) (x : Str) (mk : σ → Str → Option Value) (led : σ → Led) (I : σ → Prop) (own : Led) (s₁ s₂ : Shared) : Prop
  | go (h' : Heap) (tk : Nat) (m' : Str → Option Value) (news' : Led) (st' : σ) (e : s₂ = { s₁ with heap := h', toks := tk }) (F : Fr h₀ L h' m') (N : News h₀ L h' news') (hn : ∀ p ∈ led st', p ∈ news') (ho : ∀ p ∈ own, p ∈ news') (hm : ∀ z, z ≠ x → m' z = mk st' z) (hI : I st')
def StPost {σ : Type} (h₀ : Heap) (L : Addr) (x : Str) (mk : σ → Str → Option Value) (led : σ → Led) (I : σ → Prop) (own : Led) (s₁ : Shared) (Q : Flow → Shared → Prop) (f : Flow) (s₂ : Shared) : Prop :=
  match f with
  | .ret v => Q (.ret v) s₂
  | .brk => Q .next s₂
  | _ => StEnd h₀ L x mk led I own s₁ s₂
theorem StEnd.intro {σ : Type} {L : Addr} {mk : σ → Str → Option Value} {led : σ → Led} {I : σ → Prop} {own : Led} {s₁ : Shared} {h' : Heap} {tk : Nat} {m' : Str → Option Value} {news' : Led} (st' : σ)
    (F : Fr h₀ L h' m') (N : News h₀ L h' news') (hn : ∀ p ∈ led st', p ∈ news') (ho : ∀ p ∈ own, p ∈ news') (hm : ∀ z, z ≠ x → m' z = mk st' z) (hI : I st') :
    StEnd h₀ L x mk led I own s₁ { s₁ with heap := h', toks := tk } := ⟨h', tk, m', news', st', rfl, F, N, hn, ho, hm, hI⟩

theorem fr_congr {L : Addr} {h : Heap} {m m' : Str → Option Value} (F : Fr h₀ L h m) (e : ∀ z, m z = m' z) : Fr h₀ L h m' := by
  have : m = m' := funext e
  rw [← this]; exact F

theorem iter_st {σ : Type} (mk : σ → Str → Option Value) (led : σ → Led) (I : Nat → σ → Prop) (st₀ : σ) (adr : List Addr) (srcs : List Addr) {it : Addr} {n : Nat} {P : Nat → Value → Prop} {St : Nat → Heap → Prop}
    (W : Walks prog w A it (it :: srcs) [it] n P St) (hst : St 0 s.heap) (hL : env.locals ≠ it) (hLs : env.locals ∉ srcs) (hit : h₀.get? it = none)
    (hadr : ∀ st, (led st).map (·.1) = adr) (hia : it ∉ adr)
    (F : Fr h₀ env.locals s.heap (mk st₀)) (N : News h₀ env.locals s.heap (led st₀)) (hI : I 0 st₀)
    (turn : ∀ i v st h tk own, i < n → P i v → I i st → (∀ a ∈ adr, a ∉ srcs → ∀ p ∈ own, p.1 ≠ a) →
      Fr h₀ env.locals h (fun z => if z = x then some v else mk st z) → News h₀ env.locals h (led st ++ own) →
      wpAny (model prog w) A (execs body env) (StPost h₀ env.locals x mk led (I (i + 1)) own { s with heap := h, toks := tk } Q) E { s with heap := h, toks := tk })
    (done : ∀ u st h tk, I n st → Fr h₀ env.locals h (fun z => if z = x then u else mk st z) → News h₀ env.locals h (led st) → Q .next { s with heap := h, toks := tk }) :
    LoopAtV prog w A h₀ env x body Q E (.ref it) s := by
  let J' : Nat → (Str → Option Value) → Led → Prop := fun i m₁ news₁ => ∃ st, news₁ = led st ∧ (∀ z, z ≠ x → m₁ z = mk st z) ∧ I i st
  refine ⟨_, _, _, n, _, _, mk st₀, led st₀, J', rfl, W, ?_, ?_, ?_, hst, F, N, ⟨st₀, rfl, fun _ _ => rfl, hI⟩, ?_, ?_⟩
  · intro hm
    rcases List.mem_cons.mp hm with e | hm
    · exact hL e
    · exact hLs hm
  · intro b hb
    rw [List.mem_singleton.mp hb]; exact hit
  · intro p hp hI
    have : p.1 ∈ (led st₀).map (·.1) := List.mem_map.mpr ⟨p, hp, rfl⟩
    rw [hadr, List.mem_singleton.mp hI] at this
    exact hia this
  · rintro i v m₁ news₁ s₁ own ⟨hh', tk', rfl⟩ hin hP ⟨st, rfl, hm, hI'⟩ hoff hown _ _ _ F₁ N₁
    have hsep : ∀ a ∈ adr, a ∉ srcs → ∀ p ∈ own, p.1 ≠ a := by
      intro a ha hs p hp e
      rcases List.mem_cons.mp (hown p hp) with h1 | h1
      · exact hia (h1 ▸ e ▸ ha)
      · exact hs (e ▸ h1)
    have F₂ : Fr h₀ env.locals hh' (fun z => if z = x then some v else mk st z) := fr_congr F₁ fun z => by
      by_cases h1 : z = x
      · simp only [if_pos h1]
      · simp only [if_neg h1]; exact hm z h1
    have N₂ : News h₀ env.locals hh' (led st ++ own) := fun p hp => N₁ p ((List.mem_append.mp hp).elim (fun h => List.mem_append.mpr (.inr h)) fun h => List.mem_append.mpr (.inl h))
    refine wpAny_mono (turn i v st hh' tk' own hin hP hI' hsep F₂ N₂) (fun f s₂ p => ?_) fun _ _ e => e
    have fin : StEnd h₀ env.locals x mk led (I (i + 1)) own { s with heap := hh', toks := tk' } s₂ → LoopStepU h₀ env.locals [it] own (J' (i + 1)) { s with heap := hh', toks := tk' } .next s₂ := by
      rintro ⟨h', tk, m', news', st', e, F', N', hn, ho, hm', hI''⟩
      refine ⟨rfl, h', tk, m', led st', e, F', fun p hp => N' p ((List.mem_append.mp hp).elim (ho p) (hn p)), fun p hp hq => ?_, st', rfl, hm', hI''⟩
      have : p.1 ∈ (led st').map (·.1) := List.mem_map.mpr ⟨p, hp, rfl⟩
      rw [hadr, List.mem_singleton.mp hq] at this
      exact hia this
    cases f with
    | ret v => exact .ret p
    | brk => exact .brk p
    | next => exact .next (fin p)
    | cont => exact .cont (fin p)
  · rintro h' tk m' news' F' N' _ ⟨st, rfl, hm, hI'⟩
    refine done (m' x) st h' tk hI' (fr_congr F' fun z => ?_) N'
    by_cases h1 : z = x
    · rw [if_pos h1, h1]
    · rw [if_neg h1]; exact hm z h1

theorem not_local {L : Addr} {h : Heap} {news : Led} (N : News h₀ L h news) {p : Addr × Obj} (hp : p ∈ news) : L ≠ p.1 := fun e => (N p hp).2.1 e.symm

/-- for x in (a list of the ledger) -/
theorem iter_list {σ : Type} (upd : σ → (Str → Option Value) → Str → Option Value) (led : σ → Led) (I : Nat → σ → Prop) (st₀ : σ) (adr : List Addr) {l : Addr} {its : Array Value} {c : Nat} {news : Led} {m₀ : Str → Option Value}
    (hh : A.handled = none) (F : Fr h₀ env.locals s.heap m₀) (N : News h₀ env.locals s.heap news) (hl : (l, W.listOf its c) ∈ news)
    (hadr : ∀ st, (led st).map (·.1) = adr) (hm : ∀ z, m₀ z = upd st₀ m₀ z) (hn : ∀ p ∈ led st₀, p ∈ news) (hI : I 0 st₀)
    (turn : ∀ i v st h tk own, its[i]? = some v → I i st → (∀ a ∈ adr, a ≠ l → ∀ p ∈ own, p.1 ≠ a) →
      Fr h₀ env.locals h (fun z => if z = x then some v else upd st m₀ z) → News h₀ env.locals h (led st ++ own) →
      wpAny (model prog w) A (execs body env) (StPost h₀ env.locals x (fun st => upd st m₀) led (I (i + 1)) own { s with heap := h, toks := tk } Q) E { s with heap := h, toks := tk })
    (done : ∀ u st h tk, I its.size st → Fr h₀ env.locals h (fun z => if z = x then u else upd st m₀ z) → News h₀ env.locals h (led st) → Q .next { s with heap := h, toks := tk }) :
    wpAny (model prog w) A (pyIter (.ref l)) (fun it s₂ => LoopAtV prog w A h₀ env x body Q E it s₂) E s := by
  have hls : s.heap.IsList l its := ⟨_, (N _ hl).1, rfl, _, rfl⟩
  have hlt : l < s.heap.objs.size := Heap.lt_size (N _ hl).1
  refine wpAny_pyIter_list hls ?_
  have W := Walks.list (prog := prog) (w := w) hh s.heap.objs.size l (Nat.ne_of_lt hlt) its
  have F' : Fr h₀ env.locals (s.heap.push { cls := .type "list_iterator", data := .fields #[.ref l, .int 0 0] }) (upd st₀ m₀) := (fr_congr F hm).push _
  refine iter_st (fun st => upd st m₀) led I st₀ adr [l] W ⟨⟨_, Heap.get?_push_size _ rfl, rfl, rfl⟩, hls.at fun o e => Heap.get?_push_of_some _ e⟩ (Nat.ne_of_lt F.ns.lt) ?_ (next_is_new F) hadr ?_ F' (fun p hp => ⟨Heap.get?_push_of_some _ (N p (hn p hp)).1, (N p (hn p hp)).2⟩) hI ?_ ?_
  · intro hm'
    exact not_local N hl (List.mem_singleton.mp hm')
  · intro ha
    rw [← hadr st₀] at ha
    obtain ⟨p, hp, e⟩ := List.mem_map.mp ha
    exact absurd (Heap.lt_size (N p (hn p hp)).1) (by rw [e]; exact Nat.lt_irrefl _)
  · intro i v st h tk own hi hP hI' hsep F₁ N₁
    exact turn i v st h tk own hP hI' (fun a ha hal => hsep a ha (by simpa using hal)) F₁ N₁
  · exact done
end
theorem strs_get {vs : List Value} {xs : List Str} (h : StrsAre vs xs) {i : Nat} {v : Value} (e : vs.toArray[i]? = some v) : ∃ y t, v = .str y t ∧ xs[i]? = some y ∧ y ∈ xs := by
  have e' : vs[i]? = some v := by simpa using e
  obtain ⟨y, t, hv, hy⟩ := h.item i v e'
  exact ⟨y, t, hv, hy, List.mem_of_getElem? hy⟩
theorem len_le_sum {y : Str} : ∀ {xs : List Str}, y ∈ xs → y.length ≤ (xs.map (·.length)).sum
  | x :: r, h => by
    rw [List.map_cons, List.sum_cons]
    rcases List.mem_cons.mp h with rfl | h
    · exact Nat.le_add_right _ _
    · exact Nat.le_trans (len_le_sum h) (Nat.le_add_left _ _)
section
variable {prog : Program} {w : World} {A : Around} {E : Value → Shared → Prop} {s : Shared} {env : Env} {h₀ : Heap} {x : Str} {body : List Stmt} {Q : Flow → Shared → Prop}
/-- for x in range(n) -/
theorem iter_range {σ : Type} (upd : σ → (Str → Option Value) → Str → Option Value) (led : σ → Led) (I : Nat → σ → Prop) (st₀ : σ) (adr : List Addr) {r : Addr} {n : Nat} {t u v : Tok} {news : Led} {m₀ : Str → Option Value}
    (hh : A.handled = none) (F : Fr h₀ env.locals s.heap m₀) (N : News h₀ env.locals s.heap news) (hr : IsRange s.heap r 0 (n : Int) 1 t u v) (hsz : n ≤ 1000000)
    (hadr : ∀ st, (led st).map (·.1) = adr) (hm : ∀ z, m₀ z = upd st₀ m₀ z) (hn : ∀ p ∈ led st₀, p ∈ news) (hI : I 0 st₀)
    (turn : ∀ (i : Nat) tk0 st h tk own, i < n → I i st → (∀ a ∈ adr, ∀ p ∈ own, p.1 ≠ a) →
      Fr h₀ env.locals h (fun z => if z = x then some (.int (i : Int) tk0) else upd st m₀ z) → News h₀ env.locals h (led st ++ own) →
      wpAny (model prog w) A (execs body env) (StPost h₀ env.locals x (fun st => upd st m₀) led (I (i + 1)) own { s with heap := h, toks := tk } Q) E { s with heap := h, toks := tk })
    (done : ∀ u st h tk, I n st → Fr h₀ env.locals h (fun z => if z = x then u else upd st m₀ z) → News h₀ env.locals h (led st) → Q .next { s with heap := h, toks := tk }) :
    wpAny (model prog w) A (pyIter (.ref r)) (fun it s₂ => LoopAtV prog w A h₀ env x body Q E it s₂) E s := by
  refine wpAny_pyIter_range hr (small_one (by decide) (by decide) (by omega) (by omega)) ?_
  have e : Builtin.Range.rangeSize 0 (n : Int) 1 = (n : Int) := by rw [rangeSize_nat]; omega
  have W := Walks.range (prog := prog) (w := w) hh s.heap.objs.size 0 1 n
  have F' : Fr h₀ env.locals (s.heap.push { cls := .type "range_iterator", data := .fields #[rawInt 0, rawInt (Builtin.Range.rangeSize 0 (n : Int) 1), rawInt 1] }) (upd st₀ m₀) := (fr_congr F hm).push _
  refine iter_st (fun st => upd st m₀) led I st₀ adr [] W ?_ (Nat.ne_of_lt F.ns.lt) (by simp) (next_is_new F) hadr ?_ F' (fun p hp => ⟨Heap.get?_push_of_some _ (N p (hn p hp)).1, (N p (hn p hp)).2⟩) hI ?_ ?_
  · show IsRangeIter _ _ _ _ _
    rw [e]
    have e1 : (0 : Int) + ((0 : Nat) : Int) * 1 = 0 := by omega
    have e2 : (n : Int) - ((0 : Nat) : Int) = (n : Int) := by omega
    rw [e1, e2]
    exact Heap.get?_push_size _ rfl
  · intro ha
    rw [← hadr st₀] at ha
    obtain ⟨p, hp, e⟩ := List.mem_map.mp ha
    exact absurd (Heap.lt_size (N p (hn p hp)).1) (by rw [e]; exact Nat.lt_irrefl _)
  · rintro i v st h tk own hi ⟨tk0, rfl⟩ hI' hsep F₁ N₁
    have e3 : (0 : Int) + (i : Int) * 1 = (i : Int) := by omega
    rw [e3] at F₁
    exact turn i tk0 st h tk own hi hI' (fun a ha => hsep a ha (by simp)) F₁ N₁
  · exact done
end
theorem upd1 {m : Str → Option Value} {x : Str} {v : Value} (h : m x = some v) : ∀ z, m z = if z = x then some v else m z := fun z => by
  by_cases e : z = x
  · rw [if_pos e, e, h]
  · rw [if_neg e]
theorem upd2 {m : Str → Option Value} {x y : Str} {v u : Value} (h : m x = some v) (h2 : m y = some u) : ∀ z, m z = if z = x then some v else if z = y then some u else m z := fun z => by
  by_cases e : z = x
  · rw [if_pos e, e, h]
  · rw [if_neg e]; exact upd1 h2 z
theorem feq1 {m₀ m' : Str → Option Value} {x a : Str} {v : Value} (h1 : m' a = some v) (h2 : ∀ z, z ≠ x → z ≠ a → m' z = m₀ z) : ∀ z, z ≠ x → m' z = if z = a then some v else m₀ z := fun z hx => by
  by_cases e : z = a
  · rw [if_pos e, e, h1]
  · rw [if_neg e]; exact h2 z hx e
theorem feq2 {m₀ m' : Str → Option Value} {x a b : Str} {v u : Value} (h1 : m' a = some v) (h1' : m' b = some u) (h2 : ∀ z, z ≠ x → z ≠ a → z ≠ b → m' z = m₀ z) : ∀ z, z ≠ x → m' z = if z = a then some v else if z = b then some u else m₀ z := fun z hx => by
  by_cases e : z = a
  · rw [if_pos e, e, h1]
  · rw [if_neg e]
    by_cases e2 : z = b
    · rw [if_pos e2, e2, h1']
    · rw [if_neg e2]; exact h2 z hx e e2
section
variable {prog : Program} {w : World} {A : Around} {E : Value → Shared → Prop} {s : Shared} {env : Env} {h₀ : Heap} {x : Str} {body : List Stmt} {Q : Flow → Shared → Prop}
/-- for x in (a tuple of the ledger) -/
theorem iter_tup {σ : Type} (upd : σ → (Str → Option Value) → Str → Option Value) (led : σ → Led) (I : Nat → σ → Prop) (st₀ : σ) (adr : List Addr) {l : Addr} {its : List Value} {news : Led} {m₀ : Str → Option Value}
    (hh : A.handled = none) (F : Fr h₀ env.locals s.heap m₀) (N : News h₀ env.locals s.heap news) (hl : (l, ({ cls := .type "tuple", data := .seq its.toArray } : Obj)) ∈ news)
    (hadr : ∀ st, (led st).map (·.1) = adr) (hm : ∀ z, m₀ z = upd st₀ m₀ z) (hn : ∀ p ∈ led st₀, p ∈ news) (hI : I 0 st₀)
    (turn : ∀ i v st h tk own, its.toArray[i]? = some v → I i st → (∀ a ∈ adr, a ≠ l → ∀ p ∈ own, p.1 ≠ a) →
      Fr h₀ env.locals h (fun z => if z = x then some v else upd st m₀ z) → News h₀ env.locals h (led st ++ own) →
      wpAny (model prog w) A (execs body env) (StPost h₀ env.locals x (fun st => upd st m₀) led (I (i + 1)) own { s with heap := h, toks := tk } Q) E { s with heap := h, toks := tk })
    (done : ∀ u st h tk, I its.toArray.size st → Fr h₀ env.locals h (fun z => if z = x then u else upd st m₀ z) → News h₀ env.locals h (led st) → Q .next { s with heap := h, toks := tk }) :
    wpAny (model prog w) A (pyIter (.ref l)) (fun it s₂ => LoopAtV prog w A h₀ env x body Q E it s₂) E s := by
  have hls : s.heap.IsTuple l its.toArray := ⟨_, (N _ hl).1, rfl, _, rfl⟩
  have hlt : l < s.heap.objs.size := Heap.lt_size (N _ hl).1
  refine wpAny_pyIter_tuple hls ?_
  have W := Walks.tuple (prog := prog) (w := w) hh s.heap.objs.size l (Nat.ne_of_lt hlt) its.toArray
  refine iter_st (fun st => upd st m₀) led I st₀ adr [l] W ⟨⟨_, Heap.get?_push_size _ rfl, rfl, rfl⟩, hls.at fun o e => Heap.get?_push_of_some _ e⟩ (Nat.ne_of_lt F.ns.lt) ?_ (next_is_new F) hadr ?_ ((fr_congr F hm).push _) (fun p hp => ⟨Heap.get?_push_of_some _ (N p (hn p hp)).1, (N p (hn p hp)).2⟩) hI ?_ ?_
  · intro hm'
    exact not_local N hl (List.mem_singleton.mp hm')
  · intro ha
    rw [← hadr st₀] at ha
    obtain ⟨p, hp, e⟩ := List.mem_map.mp ha
    exact absurd (Heap.lt_size (N p (hn p hp)).1) (by rw [e]; exact Nat.lt_irrefl _)
  · intro i v st h tk own hi hP hI' hsep F₁ N₁
    exact turn i v st h tk own hP hI' (fun a ha hal => hsep a ha (by simpa using hal)) F₁ N₁
  · exact done
end
theorem ne_of_ltAll {d : Addr} {news : Led} (h : ∀ p ∈ news, p.1 < d) : ∀ p ∈ news, p.1 ≠ d := fun p hp => Nat.ne_of_lt (h p hp)
theorem lt_of_allLt {d : Addr} : ∀ {news : Led}, AllLt d news → ∀ p ∈ news, p.1 < d
  | [], _, _, hp => nomatch hp
  | q :: r, h, p, hp => by
    rcases List.mem_cons.mp hp with e | hp
    · rw [e]; exact h.1
    · exact lt_of_allLt h.2 p hp
theorem ne_of_allLt {d : Addr} {news : Led} (h : AllLt d news) : ∀ p ∈ news, p.1 ≠ d := ne_of_ltAll (lt_of_allLt h)

theorem strs_len {vs : List Value} {xs : List Str} (h : StrsAre vs xs) : vs.length = xs.length := h.len_eq
theorem strs_getD {vs : List Value} {xs : List Str} (h : StrsAre vs xs) {j : Nat} (hj : j < xs.length) : ∃ t, vs[j]? = some (.str (xs.getD j default) t) := by
  refine h.at ?_
  rw [List.getD_eq_getElem?_getD, List.getElem?_eq_getElem hj]; rfl
theorem strs_last {vs : List Value} {xs : List Str} (h : StrsAre vs xs) (hne : xs ≠ []) : ∃ us t, vs = us ++ [.str (xs.getLastD default) t] ∧ StrsAre us xs.dropLast := by
  induction h with
  | nil => exact absurd rfl hne
  | cons y t r ih =>
    cases r with
    | nil => exact ⟨[], t, rfl, .nil⟩
    | cons y' t' r' =>
      obtain ⟨us, u, e, hu⟩ := ih (by simp)
      exact ⟨.str y t :: us, u, by rw [e]; rfl, .cons y t hu⟩

section
variable {prog : Program} {w : World} {A : Around} {E : Value → Shared → Prop} {s : Shared} {h₀ : Heap} {L : Addr} {m : Str → Option Value} {news news' : Led} {value slice : PySem.Expr} {l : Addr} {vs : List Value} {xs : List Str} {n : Nat} {k : Int} {u : Tok} {Q : Value → Shared → Prop}

/-- an item of a list of texts, at a place in bounds -/
theorem txt_item (N : News h₀ L s.heap news) (hm : (l, W.listOf vs.toArray n) ∈ news) (hx : StrsAre vs xs) (h0 : 0 ≤ k) (h1 : k < (xs.length : Int)) (h2 : k < 2 ^ 63)
    (h : ∀ t, Q (.str (xs.getD k.toNat default) t) s)
    (hs : subscripted slice false (.ref l) (.int k u) = operate [.ref l, .int k u] (getItem (.ref l) (.int k u)) := by with_unfolding_all rfl) (hg : ∀ r, letTemporaryGo value (.ref l) r = pure () := by intro _; with_unfolding_all rfl) :
    wpAny (model prog w) A (subscriptTail value slice (.ref l) (.int k u)) Q E s := by
  obtain ⟨t, e⟩ := strs_getD hx (j := k.toNat) (by omega)
  exact kim_list N hm rfl rfl h0 h2 e (h t) hs hg

/-- the last item of a list of texts -/
theorem txt_last (N : News h₀ L s.heap news) (hm : (l, W.listOf vs.toArray n) ∈ news) (hx : StrsAre vs xs) (hne : xs ≠ []) 
    (h : ∀ t, Q (.str (xs.getLastD default) t) s)
    (hs : subscripted slice false (.ref l) (.int (-1) u) = operate [.ref l, .int (-1) u] (getItem (.ref l) (.int (-1) u)) := by with_unfolding_all rfl) (hg : ∀ r, letTemporaryGo value (.ref l) r = pure () := by intro _; with_unfolding_all rfl) :
    wpAny (model prog w) A (subscriptTail value slice (.ref l) (.int (-1) u)) Q E s := by
  obtain ⟨us, t, e, _⟩ := strs_last hx hne
  subst e
  refine kim_back N hm rfl rfl (by decide) ?_ (by decide) ?_ (h t) hs hg
  · rw [List.length_append]; simp; omega
  · have : ((-1 : Int) + ((us ++ [Value.str (xs.getLastD default) t]).length : Int)).toNat = us.length := by rw [List.length_append]; simp; omega
    rw [this]; simp

theorem wp_setLast {us : List Value} {y v : Value} {Q : Unit → Shared → Prop} (ho : s.heap.get? l = some (W.listOf (us ++ [y]).toArray n))
    (hQ : Q () { s with heap := s.heap.update l (Obj.mapSeq (·.setIfInBounds us.length v)) }) : wpAny (model prog w) A (setItem (.ref l) (.int (-1) u) v) Q E s := by
  have hl : s.heap.IsList l (us ++ [y]).toArray := PySem.IsL.isList (n := n) ho
  unfold setItem
  try with_reducible refine wpAny_holding ?_
  first | refine wpAny_bind (wpAny_pure ?_) | skip
  refine wpAny_bind (wpAny_sequenceKey hl.typeIs (by decide) ?_)
  refine wpAny_bind (wpAny_callSpecial?_slot (name := Str.ofString "__setitem__") hl.typeIs slot_list_setitem
    (wpAny_call_entry slot_list_setitem hl.typeIs entry_list_setitem ?_ (args_list_setitem _ _ _)))
  show wpAny _ _ (Builtin.List.listSubscript? (.int (-1) u) >>= _) _ _ s
  refine wpAny_bind (wpAny_listSubscript_int (fitsIndex_neg (by decide) (by decide)) ?_)
  have hidx : seqIndex? (Int.negSucc 0) (us ++ [y]).toArray.size = some us.length := by
    rw [seqIndex_neg (by decide) (by rw [List.size_toArray, List.length_append]; simp; omega)]
    rw [List.size_toArray, List.length_append]; simp; omega
  show wpAny _ _ ((Builtin.List.listItems (.ref l) >>= fun xs => pure ((seqIndex? (Int.negSucc 0) xs.size).bind fun i => xs[i]?.map (i, ·))) >>= _) _ _ s
  refine wpAny_bind (wpAny_bind ?_)
  show wpAny _ _ (seqItems? (.ref l) >>= _) _ _ s
  refine wpAny_bind (wpAny_seqItems ho rfl (wpAny_pure (wpAny_pure ?_)))
  rw [hidx]
  have hx : (us ++ [y]).toArray[us.length]? = some y := by simp
  simp only [Option.bind_some, hx, Option.map_some]
  show wpAny _ _ (setSeqItemAt l us.length v >>= _) _ _ s
  refine wpAny_bind (wpAny_setSeqItemAt ho rfl ?_)
  first
    | exact wpAny_bind (wpAny_pure (wpAny_pure ⟨.none, rfl, wpAny_pure hQ⟩))
    | exact wpAny_pure ⟨.none, rfl, wpAny_pure hQ⟩

theorem txt_setLast {y : Str} {t : Tok} {g : Obj → Led} {Q : Unit → Shared → Prop} (F : Fr h₀ L s.heap m) (N : News h₀ L s.heap news) (hx : StrsAre vs xs) (hne : xs ≠ [])
    (U : UpdF l (W.listOf vs.toArray n) news g)
    (h : ∀ h' vs', Fr h₀ L h' m → News h₀ L h' (g (W.listOf vs'.toArray n)) → StrsAre vs' (xs.dropLast ++ [y]) → Q () { s with heap := h' }) :
    wpAny (model prog w) A (setItem (.ref l) (.int (-1) u) (.str y t)) Q E s := by
  obtain ⟨us, t', e, hu⟩ := strs_last hx hne
  subst e
  obtain ⟨pre, post, rfl, hg, a, b⟩ := U.split
  have z := N (l, W.listOf (us ++ [Value.str (xs.getLastD default) t']).toArray n) (List.mem_append.mpr (.inr (.head _)))
  refine wp_setLast z.1 (h _ (us ++ [Value.str y t]) (F.change (Heap.SameBut.update ..) z.2.1 z.2.2) ?_ (hu.append' (.cons y t .nil)))
  rw [hg]
  refine ki_turn _ N a b ?_ ?_
  · apply Array.toList_inj.mp
    simp
  · simp
end

abbrev S0 : Str := Str.ofString ""
/-- the sign that a number of the script adds -/
def nMenu (x : Int) : List Str := [Str.ofString "", Str.ofString "/", Str.ofString ".", Str.ofString "a", Str.ofString "&", Str.ofString "<", ⟨#[(Int.fmod (Int.fdiv x 8) 256).toNat]⟩, Str.ofString "%"]
def nStep (acc : List Str) (x : Int) : List Str := if Int.fmod x 8 = 0 then acc ++ [S0] else acc.dropLast ++ [acc.getLastD default ++ (nMenu x).getD (Int.fmod x 8).toNat default]
def namesP (ns : List Int) : List Str := ns.foldl nStep [S0]
theorem ints_at {vs : List Value} {ns : List Int} (h : IntsAre vs ns) {i : Nat} {v : Value} (e : vs.toArray[i]? = some v) : ∃ n t, v = .int n t ∧ ns[i]? = some n ∧ n ∈ ns := by
  have e' : vs[i]? = some v := by simpa using e
  have hi : i < ns.length := by
    rw [← h.length]
    exact (List.getElem?_eq_some_iff.mp e').1
  obtain ⟨t, hx⟩ := h.get i ns[i] (by simp [hi])
  exact ⟨ns[i], t, (Option.some.inj (hx.symm.trans e')).symm, by simp [hi], List.getElem_mem hi⟩
theorem off_append {d : Addr} {a b : Led} (h1 : ∀ p ∈ a, p.1 ≠ d) (h2 : ∀ p ∈ b, p.1 ≠ d) : ∀ p ∈ a ++ b, p.1 ≠ d := fun p hp => (List.mem_append.mp hp).elim (h1 p) (h2 p)
theorem strs8 {a b c d e f g h : Str} {ta tb tc td te tf tg th : Tok} : StrsAre [.str a ta, .str b tb, .str c tc, .str d td, .str e te, .str f tf, .str g tg, .str h th] [a, b, c, d, e, f, g, h] :=
  .cons _ _ (.cons _ _ (.cons _ _ (.cons _ _ (.cons _ _ (.cons _ _ (.cons _ _ (.cons _ _ .nil)))))))
theorem nMenu_len1 (n : Int) : ∀ y ∈ [Str.ofString "", Str.ofString "/", Str.ofString ".", Str.ofString "a", Str.ofString "&", Str.ofString "<", ⟨#[(Int.fmod (Int.fdiv n 8) 256).toNat]⟩, Str.ofString "%"], y.length ≤ 1 := by
  intro y hy
  simp only [List.mem_cons, List.not_mem_nil, or_false] at hy
  rcases hy with rfl | rfl | rfl | rfl | rfl | rfl | rfl | rfl <;> first | decide | exact Nat.le_refl _
theorem getD_mem' {α : Type} {l : List α} {k : Nat} {d : α} (h : k < l.length) : l.getD k d ∈ l := by
  rw [List.getD_eq_getElem?_getD, List.getElem?_eq_getElem h]; exact List.getElem_mem h
theorem nMenu_len (n : Int) (h : 0 ≤ Int.fmod n 8 ∧ Int.fmod n 8 < 8) : ([Str.ofString "", Str.ofString "/", Str.ofString ".", Str.ofString "a", Str.ofString "&", Str.ofString "<", ⟨#[(Int.fmod (Int.fdiv n 8) 256).toNat]⟩, Str.ofString "%"].getD (Int.fmod n 8).toNat default).length ≤ 1 :=
  nMenu_len1 n _ (getD_mem' (by simp only [List.length_cons, List.length_nil]; omega))
theorem getLastD_mem' {α : Type} {l : List α} {d : α} (h : l ≠ []) : l.getLastD d ∈ l := by
  rw [List.getLastD_eq_getLast?, List.getLast?_eq_some_getLast h]; exact List.getLast_mem h
theorem mem2 {x : Addr × Obj} {a b : Led} (h1 : x ∈ b) (h2 : ∀ p ∈ a, p ∈ b) : ∀ p ∈ x :: a, p ∈ b := fun p hp => by
  rcases List.mem_cons.mp hp with rfl | hp
  · exact h1
  · exact h2 p hp
theorem memL {x : Addr × Obj} {a c b : Led} (h : ∀ p ∈ a ++ c, p ∈ b) : ∀ p ∈ a, p ∈ b := fun p hp => h p (List.mem_append_left _ hp)
theorem memR {x : Addr × Obj} {a c b : Led} (h : ∀ p ∈ a ++ c, p ∈ b) : ∀ p ∈ c, p ∈ b := fun p hp => h p (List.mem_append_right _ hp)
theorem namesP_take {ns : List Int} {i : Nat} {n : Int} (h : ns[i]? = some n) : namesP (ns.take (i + 1)) = nStep (namesP (ns.take i)) n := by
  unfold namesP
  rw [List.take_add_one, h, List.foldl_append]; rfl
theorem ne1 {xs : List Str} (h : (!xs.isEmpty) = true) : xs ≠ [] := by rintro rfl; exact absurd h (by decide)
theorem ne2 {xs : List Str} (h : xs.isEmpty = false) : xs ≠ [] := by rintro rfl; exact absurd h (by decide)
local macro_rules | `(tactic| k_all) => `(tactic| assumption)
local macro_rules | `(tactic| k_all) => `(tactic| exact ne_of_ltAll (by assumption))
local macro_rules | `(tactic| k_all) => `(tactic| exact ne_of_allLt (by assumption))
local macro_rules | `(tactic| k_all) => `(tactic| exact ne_of_allLt (And.right (by assumption)))
section
abbrev sSl : Str := Str.ofString "/"
/-- where split cuts -/
def spI (x : Str) : Int := Txt.rfind x (Str.ofString "/") + 1
def spHead0 (x : Str) : Str := Txt.slice x none (some (spI x))
def spHead (x : Str) : Str := if (spHead0 x).length ≠ 0 ∧ (spHead0 x != Txt.mul (Str.ofString "/") ((spHead0 x).length : Int)) = true then Txt.rstripChars (spHead0 x) (Str.ofString "/") else spHead0 x
def spTail (x : Str) : Str := Txt.slice x (some (spI x)) none
abbrev tupOf (vs : List Value) : Obj := { cls := .type "tuple", data := .seq vs.toArray }
/-- hands back a pair of texts -/
abbrev RPair (a b : Str) (r : Value) (tl : Led) : Prop := ∃ D t u, r = .ref D ∧ tl = [(D, tupOf [.str a t, .str b u])]
abbrev RTri (a b c : Str) (r : Value) (tl : Led) : Prop := ∃ D t u v, r = .ref D ∧ tl = [(D, tupOf [.str a t, .str b u, .str c v])]
theorem RPair.of {a b a' b' : Str} {D : Addr} {t u : Tok} (e1 : a' = a) (e2 : b' = b) : RPair a b (.ref D) [(D, tupOf [.str a' t, .str b' u])] := ⟨D, t, u, rfl, by rw [e1, e2]⟩
theorem RTri.of {a b c a' b' c' : Str} {D : Addr} {t u v : Tok} (e1 : a' = a) (e2 : b' = b) (e3 : c' = c) : RTri a b c (.ref D) [(D, tupOf [.str a' t, .str b' u, .str c' v])] := ⟨D, t, u, v, rfl, by rw [e1, e2, e3]⟩
/-- splitroot's root and rest -/
def srRoot (x : Str) : Str := if (Txt.slice x none (some 1) != Str.ofString "/") = true then Str.ofString "" else if (Txt.slice x (some 1) (some 2) != Str.ofString "/") = true ∨ (Txt.slice x (some 2) (some 3) == Str.ofString "/") = true then Str.ofString "/" else Txt.slice x none (some 2)
def srRest (x : Str) : Str := if (Txt.slice x none (some 1) != Str.ofString "/") = true then x else if (Txt.slice x (some 1) (some 2) != Str.ofString "/") = true ∨ (Txt.slice x (some 2) (some 3) == Str.ofString "/") = true then Txt.slice x (some 1) none else Txt.slice x (some 2) none
theorem split_ok {w : World} {mean : ExcName → Option Value} {mg mb : Str → Option Value} {news : List (Addr × Obj)} (x : Str) (t : Tok) (hx : x.length ≤ 100000) :
    Tells w mean mg mb 0 2 24 147 news [.str x t] (RPair (spHead x) (spTail x)) := by
  w_on
  w_strict (
    refine Tells.of ?_
    unfold Tells0
    k_fill
    intro dp un gd cn cs a ccd cl outer A₀ base h₀ L m s Q E B F X N T hk hd hu htk hret
    refine wpAny_call ?_
    k_dflt cell_enter
    
    repeat' ((fail_if_success (with_reducible show wpAny _ _ (pyIter _) _ _ _)); ((first | ((with_reducible show wpAny _ _ (subscriptTail _ _ (Value.ref _) (Value.int _ _)) _ _ _); (k_here; (with_reducible show wpAny _ _ (subscriptTail _ _ (Value.ref _) (Value.int (-1) _)) _ _ _); k_dflt (refine' txt_last ?k1Qz ?k2Qz ?k3Qz ?k4Qz ?_ ?k5Qz ?k6Qz; (case k1Qz => k_asm); (case k2Qz => k_mem); (case k3Qz => assumption); (case k4Qz => assumption); (case k5Qz => with_unfolding_all rfl); (case k6Qz => (intro _; with_unfolding_all rfl)); k_whole); intro t9)) | ((with_reducible show wpAny _ _ (binaryOp Operator.Add (Value.str _ _) (Value.str _ _)) _ _ _); ((with_reducible show wpAny _ _ (binaryOp Operator.Add (Value.str _ _) (Value.str _ _)) _ _ _); (refine SB.add (hsz := ?hszQz) ?_); (case hszQz => (rw [PySem.sizeLine_eq]; (try simp only [Str.length_append]); omega)); intro t9 k9)) | ((with_reducible show wpAny _ _ (call (Value.builtin "list.append") _) _ _ _); (k_here; (try dsimp only [List.cons_append, List.nil_append]); (with_reducible show wpAny _ _ (call (Value.builtin _) [Value.ref _, _]) _ _ _); k_dflt (refine' append_K ?k1Qz ?k2Qz ?k3Qz ?_ ?zQz; (case k1Qz => k_asm); (case k2Qz => k_asm); (case k3Qz => k_upd); (case zQz => size_fits); k_whole); intro h' F' N'; (try k_sweep))) | ((with_reducible show wpAny _ _ (call (Value.ref 133) _) _ _ _); (k_here; k_dflt (refine' Tells.useS ?k1Qz ?k2Qz ?k3Qz ?k4Qz ?k5Qz ?k6Qz (getsep_ok _ _) ?k7Qz ?k8Qz ?k9Qz ?_; (case k1Qz => k_asm); (case k2Qz => k_asm); (case k3Qz => k_asm); (case k4Qz => k_asm); (case k5Qz => k_asm); (case k6Qz => first | exact rfl | assumption); (case k7Qz => ktr_room); (case k8Qz => ktr_units); (case k9Qz => first | exact Nat.zero_le _ | omega); k_whole; intro t9 h9 tk9 F9 N9 htk9))) | ((with_reducible show wpAny _ _ (call (Value.ref 119) _) _ _ _); (k_here; k_dflt (refine' Tells.useS ?k1Qz ?k2Qz ?k3Qz ?k4Qz ?k5Qz ?k6Qz (fspath_ok _ _) ?k7Qz ?k8Qz ?k9Qz ?_; (case k1Qz => k_asm); (case k2Qz => k_asm); (case k3Qz => k_asm); (case k4Qz => k_asm); (case k5Qz => k_asm); (case k6Qz => first | exact rfl | assumption); (case k7Qz => ktr_room); (case k8Qz => ktr_units); (case k9Qz => first | exact Nat.zero_le _ | omega); k_whole; intro t9 h9 tk9 F9 N9 htk9))) | walk1) <;> (try dsimp only)))
    all_goals (
      rename News h₀ _ _ _ => N9
      refine hret _ [(_, _)] _ _ (by k_asm) (news_drop N9 (mem2 (List.Mem.head _) fun p hp => .tail _ (.tail _ hp))) (RPair.of ?_ rfl)
      unfold spHead spHead0 spI)
    · rw [if_pos ⟨by omega, by assumption⟩]
    · rw [if_neg (by intro h9; simp_all)]
    · rw [if_neg (by intro h9; omega)])
theorem splitroot_ok {w : World} {mean : ExcName → Option Value} {mg mb : Str → Option Value} {news : List (Addr × Obj)} (x : Str) (t : Tok) (hx : x.length ≤ 100000) :
    Tells w mean mg mb 0 2 24 154 news [.str x t] (RTri (Str.ofString "") (srRoot x) (srRest x)) := by
  w_on
  w_strict (
    refine Tells.of ?_
    unfold Tells0
    k_fill
    intro dp un gd cn cs a ccd cl outer A₀ base h₀ L m s Q E B F X N T hk hd hu htk hret
    refine wpAny_call ?_
    k_dflt cell_enter
    
    repeat' ((fail_if_success (with_reducible show wpAny _ _ (pyIter _) _ _ _)); ((first | ((with_reducible show wpAny _ _ (subscriptTail _ _ (Value.ref _) (Value.int _ _)) _ _ _); (k_here; (with_reducible show wpAny _ _ (subscriptTail _ _ (Value.ref _) (Value.int (-1) _)) _ _ _); k_dflt (refine' txt_last ?k1Qz ?k2Qz ?k3Qz ?k4Qz ?_ ?k5Qz ?k6Qz; (case k1Qz => k_asm); (case k2Qz => k_mem); (case k3Qz => assumption); (case k4Qz => assumption); (case k5Qz => with_unfolding_all rfl); (case k6Qz => (intro _; with_unfolding_all rfl)); k_whole); intro t9)) | ((with_reducible show wpAny _ _ (binaryOp Operator.Add (Value.str _ _) (Value.str _ _)) _ _ _); ((with_reducible show wpAny _ _ (binaryOp Operator.Add (Value.str _ _) (Value.str _ _)) _ _ _); (refine SB.add (hsz := ?hszQz) ?_); (case hszQz => (rw [PySem.sizeLine_eq]; (try simp only [Str.length_append]); omega)); intro t9 k9)) | ((with_reducible show wpAny _ _ (call (Value.builtin "list.append") _) _ _ _); (k_here; (try dsimp only [List.cons_append, List.nil_append]); (with_reducible show wpAny _ _ (call (Value.builtin _) [Value.ref _, _]) _ _ _); k_dflt (refine' append_K ?k1Qz ?k2Qz ?k3Qz ?_ ?zQz; (case k1Qz => k_asm); (case k2Qz => k_asm); (case k3Qz => k_upd); (case zQz => size_fits); k_whole); intro h' F' N'; (try k_sweep))) | ((with_reducible show wpAny _ _ (call (Value.ref 133) _) _ _ _); (k_here; k_dflt (refine' Tells.useS ?k1Qz ?k2Qz ?k3Qz ?k4Qz ?k5Qz ?k6Qz (getsep_ok _ _) ?k7Qz ?k8Qz ?k9Qz ?_; (case k1Qz => k_asm); (case k2Qz => k_asm); (case k3Qz => k_asm); (case k4Qz => k_asm); (case k5Qz => k_asm); (case k6Qz => first | exact rfl | assumption); (case k7Qz => ktr_room); (case k8Qz => ktr_units); (case k9Qz => first | exact Nat.zero_le _ | omega); k_whole; intro t9 h9 tk9 F9 N9 htk9))) | ((with_reducible show wpAny _ _ (call (Value.ref 119) _) _ _ _); (k_here; k_dflt (refine' Tells.useS ?k1Qz ?k2Qz ?k3Qz ?k4Qz ?k5Qz ?k6Qz (fspath_ok _ _) ?k7Qz ?k8Qz ?k9Qz ?_; (case k1Qz => k_asm); (case k2Qz => k_asm); (case k3Qz => k_asm); (case k4Qz => k_asm); (case k5Qz => k_asm); (case k6Qz => first | exact rfl | assumption); (case k7Qz => ktr_room); (case k8Qz => ktr_units); (case k9Qz => first | exact Nat.zero_le _ | omega); k_whole; intro t9 h9 tk9 F9 N9 htk9))) | walk1) <;> (try dsimp only)))
    all_goals (
      rename News h₀ _ _ _ => N9
      refine hret _ [(_, _)] _ _ (by k_asm) (news_drop N9 (mem2 (List.Mem.head _) fun p hp => .tail _ hp)) (RTri.of rfl ?_ ?_)
      all_goals (first | unfold srRoot | unfold srRest)
      all_goals (simp_all)))
theorem names_ok {w : World} {mean : ExcName → Option Value} {mg mb : Str → Option Value} {news : List (Addr × Obj)} (l : Addr) (vs : List Value) (ns : List Int) (hv : IntsAre vs ns) (hl : (l, W.listOf vs.toArray 0) ∈ news) (hn : ns.length ≤ 30) (hpos : ∀ n ∈ ns, 0 ≤ n ∧ n < 4096) :
    Tells w mean mg mb 0 2 24 168 news [.ref l] (fun r tl => ∃ a vs c, r = .ref a ∧ tl = [(a, W.listOf vs.toArray c)] ∧ StrsAre vs (namesP ns)) := by
  w_on
  w_strict (
    refine Tells.of ?_
    unfold Tells0
    k_fill
    intro dp un gd cn cs a ccd cl outer A₀ base h₀ L m s Q E B F X N T hk hd hu htk hret
    refine wpAny_call ?_
    k_dflt cell_enter
    
    repeat' ((fail_if_success (with_reducible show wpAny _ _ (pyIter _) _ _ _)); ((first | ((with_reducible show wpAny _ _ (setItem (Value.ref _) (Value.int _ _) _) _ _ _); (k_here; (with_reducible show wpAny _ _ (setItem (Value.ref _) (Value.int (-1) _) (Value.str _ _)) _ _ _); k_dflt (refine' txt_setLast ?k1Qz ?k2Qz ?k3Qz ?k4Qz ?k5Qz ?_; (case k1Qz => k_asm); (case k2Qz => k_asm); (case k3Qz => assumption); (case k4Qz => assumption); (case k5Qz => k_updF); k_whole); intro h' vs' F' N' hs'; (try dsimp only at N'); (try k_sweep))) | ((with_reducible show wpAny _ _ (subscriptTail _ _ (Value.ref _) (Value.int _ _)) _ _ _); (k_here; (with_reducible show wpAny _ _ (subscriptTail _ _ (Value.ref _) (Value.int (Int.fmod _ _) _)) _ _ _); k_dflt (refine' txt_item ?k1Qz ?k2Qz ?k3Qz ?k4Qz ?k5Qz ?k6Qz ?_ ?k7Qz ?k8Qz; (case k1Qz => k_asm); (case k2Qz => k_mem); (case k3Qz => exact strs8); (case k4Qz => omega); (case k5Qz => (simp only [List.length_cons, List.length_nil]; omega)); (case k6Qz => omega); (case k7Qz => with_unfolding_all rfl); (case k8Qz => (intro _; with_unfolding_all rfl)); k_whole); intro t9)) | ((with_reducible show wpAny _ _ (subscriptTail _ _ (Value.ref _) (Value.int _ _)) _ _ _); (k_here; (with_reducible show wpAny _ _ (subscriptTail _ _ (Value.ref _) (Value.int (-1) _)) _ _ _); k_dflt (refine' txt_last ?k1Qz ?k2Qz ?k3Qz ?k4Qz ?_ ?k5Qz ?k6Qz; (case k1Qz => k_asm); (case k2Qz => k_mem); (case k3Qz => assumption); (case k4Qz => assumption); (case k5Qz => with_unfolding_all rfl); (case k6Qz => (intro _; with_unfolding_all rfl)); k_whole); intro t9)) | ((with_reducible show wpAny _ _ (binaryOp Operator.Add (Value.str _ _) (Value.str _ _)) _ _ _); ((with_reducible show wpAny _ _ (binaryOp Operator.Add (Value.str _ _) (Value.str _ _)) _ _ _); (refine SB.add (hsz := ?hszQz) ?_); (case hszQz => (rw [PySem.sizeLine_eq]; (try simp only [Str.length_append]); omega)); intro t9 k9)) | ((with_reducible show wpAny _ _ (call (Value.builtin "list.append") _) _ _ _); (k_here; (try dsimp only [List.cons_append, List.nil_append]); (with_reducible show wpAny _ _ (call (Value.builtin _) [Value.ref _, _]) _ _ _); k_dflt (refine' append_K ?k1Qz ?k2Qz ?k3Qz ?_ ?zQz; (case k1Qz => k_asm); (case k2Qz => k_asm); (case k3Qz => k_upd); (case zQz => size_fits); k_whole); intro h' F' N'; (try k_sweep))) | walk1) <;> (try dsimp only)))
    rename News _ _ _ _ => N1
    rename Fr _ _ _ _ => F1
    rename ∀ p ∈ news, p.1 < _ => hlt
    rename IntsAre vs ns => hv
    refine iter_list (σ := List Value × List Str × Nat) (fun _ m => m) (fun st => (_, W.listOf st.1.toArray st.2.2) :: news) (fun i st => StrsAre st.1 st.2.1 ∧ st.2.1 = namesP (ns.take i) ∧ st.2.1 ≠ [] ∧ st.2.1.length ≤ 1 + i ∧ ∀ y ∈ st.2.1, y.length ≤ i) ([Value.str S0 _], [S0], 0) (_ :: news.map (·.1)) rfl F1 N1 (.tail _ hl) (fun st => rfl) (fun z => rfl) (fun p hp => hp) ?_ ?_ ?_
    · exact ⟨.cons _ _ .nil, rfl, by simp, by simp, by simp [S0]; decide⟩
    · rintro i v ⟨us, ys, c⟩ h tk own hv' ⟨hs, hy, hne, hlen, hsz⟩ hoff F2 N2
      clear N1 F1
      obtain ⟨n, t, rfl, hni, hnm⟩ := ints_at hv hv'
      have hi : i ≤ 30 := by
        have := (List.getElem?_eq_some_iff.mp hni).1
        omega
      have hp := hpos n hnm
      have hne' := off_append (ne_of_ltAll hlt) (hoff _ (.head _) (Nat.ne_of_gt (hlt _ hl)))
      dsimp only [List.cons_append] at F2 N2 hs hy hne hlen hsz hne' ⊢
      (with_reducible show wpAny _ _ _ _ _ _)
      k_fold
      have h8 : 0 ≤ Int.fmod n 8 ∧ Int.fmod n 8 < 8 := by rw [Int.fmod_eq_emod_of_nonneg _ (by decide)]; omega
      have hml := nMenu_len n h8
      have hll := hsz _ (getLastD_mem' (d := default) hne)
      have hul : us.length ≤ 100 := by rw [strs_len hs]; omega
      have hus : us.toArray.size ≤ 100 := by rw [List.size_toArray]; exact hul
      repeat' ((fail_if_success (with_reducible show wpAny _ _ (pyIter _) _ _ _)); ((first | ((with_reducible show wpAny _ _ (setItem (Value.ref _) (Value.int _ _) _) _ _ _); (k_here; (with_reducible show wpAny _ _ (setItem (Value.ref _) (Value.int (-1) _) (Value.str _ _)) _ _ _); k_dflt (refine' txt_setLast ?k1Qz ?k2Qz ?k3Qz ?k4Qz ?k5Qz ?_; (case k1Qz => k_asm); (case k2Qz => k_asm); (case k3Qz => assumption); (case k4Qz => assumption); (case k5Qz => k_updF); k_whole); intro h' vs' F' N' hs'; (try dsimp only at N'); (try k_sweep))) | ((with_reducible show wpAny _ _ (subscriptTail _ _ (Value.ref _) (Value.int _ _)) _ _ _); (k_here; (with_reducible show wpAny _ _ (subscriptTail _ _ (Value.ref _) (Value.int (Int.fmod _ _) _)) _ _ _); k_dflt (refine' txt_item ?k1Qz ?k2Qz ?k3Qz ?k4Qz ?k5Qz ?k6Qz ?_ ?k7Qz ?k8Qz; (case k1Qz => k_asm); (case k2Qz => k_mem); (case k3Qz => exact strs8); (case k4Qz => omega); (case k5Qz => (simp only [List.length_cons, List.length_nil]; omega)); (case k6Qz => omega); (case k7Qz => with_unfolding_all rfl); (case k8Qz => (intro _; with_unfolding_all rfl)); k_whole); intro t9)) | ((with_reducible show wpAny _ _ (subscriptTail _ _ (Value.ref _) (Value.int _ _)) _ _ _); (k_here; (with_reducible show wpAny _ _ (subscriptTail _ _ (Value.ref _) (Value.int (-1) _)) _ _ _); k_dflt (refine' txt_last ?k1Qz ?k2Qz ?k3Qz ?k4Qz ?_ ?k5Qz ?k6Qz; (case k1Qz => k_asm); (case k2Qz => k_mem); (case k3Qz => assumption); (case k4Qz => assumption); (case k5Qz => with_unfolding_all rfl); (case k6Qz => (intro _; with_unfolding_all rfl)); k_whole); intro t9)) | ((with_reducible show wpAny _ _ (binaryOp Operator.Add (Value.str _ _) (Value.str _ _)) _ _ _); ((with_reducible show wpAny _ _ (binaryOp Operator.Add (Value.str _ _) (Value.str _ _)) _ _ _); (refine SB.add (hsz := ?hszQz) ?_); (case hszQz => (rw [PySem.sizeLine_eq]; (try simp only [Str.length_append]); omega)); intro t9 k9)) | ((with_reducible show wpAny _ _ (call (Value.builtin "list.append") _) _ _ _); (k_here; (try dsimp only [List.cons_append, List.nil_append]); (with_reducible show wpAny _ _ (call (Value.builtin _) [Value.ref _, _]) _ _ _); k_dflt (refine' append_K ?k1Qz ?k2Qz ?k3Qz ?_ ?zQz; (case k1Qz => k_asm); (case k2Qz => k_asm); (case k3Qz => k_upd); (case zQz => size_fits); k_whole); intro h' F' N'; (try k_sweep))) | walk1) <;> (try dsimp only)))
      all_goals (k_unfold; dsimp only [StPost]; rename Fr _ _ _ _ => F9; rename News _ _ _ _ => N9)
      · simp only [List.push_toArray] at N9
        refine' StEnd.intro (_, _, _) F9 N9 (mem2 (List.Mem.head _) (fun p hp => .tail _ (List.mem_append_left _ hp))) (fun p hp => .tail _ (List.mem_append_right _ hp)) (fun z hz => if_neg hz) ⟨hs.append' (.cons _ _ .nil), ?_, by simp, by simp; omega, ?_⟩
        · rw [namesP_take hni, ← hy]; unfold nStep; rw [if_pos (by assumption)]
        · intro y hy'
          rcases List.mem_append.mp hy' with h1 | h1
          · exact Nat.le_succ_of_le (hsz y h1)
          · rw [List.mem_singleton.mp h1]; exact Nat.zero_le _
      · rename StrsAre _ (_ ++ _) => hs'
        refine' StEnd.intro (_, _, _) F9 N9 (mem2 (List.Mem.tail _ (List.Mem.head _)) (fun p hp => .tail _ (.tail _ (List.mem_append_left _ hp)))) (fun p hp => .tail _ (.tail _ (List.mem_append_right _ hp))) (fun z hz => if_neg hz) ⟨hs', ?_, by simp, by simp; omega, ?_⟩
        · rw [namesP_take hni, ← hy]; unfold nStep; rw [if_neg (by assumption)]; rfl
        · intro y hy'
          rcases List.mem_append.mp hy' with h1 | h1
          · exact Nat.le_succ_of_le (hsz y (List.dropLast_subset _ h1))
          · rw [List.mem_singleton.mp h1, Str.length_append]; omega
    · rintro u ⟨us, ys, c⟩ h tk ⟨hs, hy, hne, hlen, hsz⟩ F2 N2
      dsimp only at hs hy N2 ⊢
      repeat' ((fail_if_success (with_reducible show wpAny _ _ (pyIter _) _ _ _)); ((first | ((with_reducible show wpAny _ _ (setItem (Value.ref _) (Value.int _ _) _) _ _ _); (k_here; (with_reducible show wpAny _ _ (setItem (Value.ref _) (Value.int (-1) _) (Value.str _ _)) _ _ _); k_dflt (refine' txt_setLast ?k1Qz ?k2Qz ?k3Qz ?k4Qz ?k5Qz ?_; (case k1Qz => k_asm); (case k2Qz => k_asm); (case k3Qz => assumption); (case k4Qz => assumption); (case k5Qz => k_updF); k_whole); intro h' vs' F' N' hs'; (try dsimp only at N'); (try k_sweep))) | ((with_reducible show wpAny _ _ (subscriptTail _ _ (Value.ref _) (Value.int _ _)) _ _ _); (k_here; (with_reducible show wpAny _ _ (subscriptTail _ _ (Value.ref _) (Value.int (Int.fmod _ _) _)) _ _ _); k_dflt (refine' txt_item ?k1Qz ?k2Qz ?k3Qz ?k4Qz ?k5Qz ?k6Qz ?_ ?k7Qz ?k8Qz; (case k1Qz => k_asm); (case k2Qz => k_mem); (case k3Qz => exact strs8); (case k4Qz => omega); (case k5Qz => (simp only [List.length_cons, List.length_nil]; omega)); (case k6Qz => omega); (case k7Qz => with_unfolding_all rfl); (case k8Qz => (intro _; with_unfolding_all rfl)); k_whole); intro t9)) | ((with_reducible show wpAny _ _ (subscriptTail _ _ (Value.ref _) (Value.int _ _)) _ _ _); (k_here; (with_reducible show wpAny _ _ (subscriptTail _ _ (Value.ref _) (Value.int (-1) _)) _ _ _); k_dflt (refine' txt_last ?k1Qz ?k2Qz ?k3Qz ?k4Qz ?_ ?k5Qz ?k6Qz; (case k1Qz => k_asm); (case k2Qz => k_mem); (case k3Qz => assumption); (case k4Qz => assumption); (case k5Qz => with_unfolding_all rfl); (case k6Qz => (intro _; with_unfolding_all rfl)); k_whole); intro t9)) | ((with_reducible show wpAny _ _ (binaryOp Operator.Add (Value.str _ _) (Value.str _ _)) _ _ _); ((with_reducible show wpAny _ _ (binaryOp Operator.Add (Value.str _ _) (Value.str _ _)) _ _ _); (refine SB.add (hsz := ?hszQz) ?_); (case hszQz => (rw [PySem.sizeLine_eq]; (try simp only [Str.length_append]); omega)); intro t9 k9)) | ((with_reducible show wpAny _ _ (call (Value.builtin "list.append") _) _ _ _); (k_here; (try dsimp only [List.cons_append, List.nil_append]); (with_reducible show wpAny _ _ (call (Value.builtin _) [Value.ref _, _]) _ _ _); k_dflt (refine' append_K ?k1Qz ?k2Qz ?k3Qz ?_ ?zQz; (case k1Qz => k_asm); (case k2Qz => k_asm); (case k3Qz => k_upd); (case zQz => size_fits); k_whole); intro h' F' N'; (try k_sweep))) | walk1) <;> (try dsimp only)))
      rename News h₀ _ _ _ => N9
      refine hret _ [(_, _)] _ _ (by k_asm) N9 ⟨_, us, c, rfl, rfl, ?_⟩
      rw [show List.take vs.toArray.size ns = ns from List.take_of_length_le (by rw [List.size_toArray, IntsAre.length hv]; exact Nat.le_refl _)] at hy
      exact hy ▸ hs)
section
variable {prog : Program} {w : World} {A : Around} {E : Value → Shared → Prop} {s : Shared} {h₀ : Heap} {L : Addr} {news : Led} {value slice : PySem.Expr} {l : Addr} {vs : List Value} {xs : List Str} {n i : Nat} {u : Tok} {Q : Value → Shared → Prop}
theorem txt_itemN (N : News h₀ L s.heap news) (hm : (l, W.listOf vs.toArray n) ∈ news) (hx : StrsAre vs xs) (h1 : i < xs.length) (h2 : i ≤ 1000000)
    (h : ∀ t, Q (.str (xs.getD i default) t) s)
    (hs : subscripted slice false (.ref l) (.int (i : Int) u) = operate [.ref l, .int (i : Int) u] (getItem (.ref l) (.int (i : Int) u)) := by with_unfolding_all rfl) (hg : ∀ r, letTemporaryGo value (.ref l) r = pure () := by intro _; with_unfolding_all rfl) :
    wpAny (model prog w) A (subscriptTail value slice (.ref l) (.int (i : Int) u)) Q E s :=
  txt_item N hm hx (by omega) (by omega) (by omega) h hs hg
end
theorem strs_pop {vs : List Value} {xs : List Str} (h : StrsAre vs xs) : StrsAre vs.dropLast xs.dropLast := by
  rw [List.dropLast_eq_take, List.dropLast_eq_take, h.len_eq]; exact h.take' _
theorem strs_rev {vs : List Value} {xs : List Str} (h : StrsAre vs xs) : StrsAre vs.reverse xs.reverse := by
  induction h with
  | nil => exact .nil
  | cons y t r ih => rw [List.reverse_cons, List.reverse_cons]; exact ih.append' (.cons y t .nil)

section
variable {prog : Program} {w : World} {A : Around} {E : Value → Shared → Prop} {s : Shared} {h₀ : Heap} {L : Addr} {m : Str → Option Value} {news news' : Led} {value slice : PySem.Expr} {l l2 : Addr} {vs vs2 : List Value} {xs xs2 : List Str} {n n2 : Nat} {k : Int} {u t : Tok} {x y : Str}

theorem txt_truthy {Q : Bool → Shared → Prop} (N : News h₀ L s.heap news) (hm : (l, W.listOf vs.toArray n) ∈ news) (hx : StrsAre vs xs) (hsz : xs.length ≤ 100000)
    (h : Q (!xs.isEmpty) { s with toks := s.toks + 1 + 1 }) : wpAny (model prog w) A (truthy (.ref l)) Q E s := by
  refine wpAny_truthy_list (News.isList N hm) (by rw [List.size_toArray, hx.len_eq]; omega) ?_
  have : vs.toArray.isEmpty = xs.isEmpty := by cases hx <;> rfl
  rw [this]; exact h
theorem txt_len {Q : Value → Shared → Prop} (N : News h₀ L s.heap news) (hm : (l, W.listOf vs.toArray n) ∈ news) (hx : StrsAre vs xs) (hsz : xs.length ≤ 100000)
    (h : Q (.int (xs.length : Int) (s.toks + 1)) { s with toks := s.toks + 1 + 1 }) : wpAny (model prog w) A (call (.builtin "len") [.ref l]) Q E s := by
  refine len_list (News.isList N hm) (by rw [List.size_toArray, hx.len_eq]; omega) ?_
  rw [List.size_toArray, hx.len_eq]; exact h
theorem txt_join {Q : Value → Shared → Prop} (N : News h₀ L s.heap news) (hm : (l, W.listOf vs.toArray n) ∈ news) (hx : StrsAre vs xs) (hok : (xs.map (·.length)).sum + xs.length * x.length ≤ 16777216)
    (h : ∀ t' k, Q (.str (Txt.join x xs) t') { s with toks := k }) : wpAny (model prog w) A (call (.builtin "str.join") [.str x t, .ref l]) Q E s :=
  join_list (News.isList N hm) hx hok h
theorem txt_append {Q : Value → Shared → Prop} (F : Fr h₀ L s.heap m) (N : News h₀ L s.heap news) (hx : StrsAre vs xs) (hsz : xs.length ≤ 100000)
    (U : Upd l (W.listOf vs.toArray n) (W.listOf (vs ++ [Value.str y u]).toArray (n + 1)) news news')
    (h : ∀ h', Fr h₀ L h' m → News h₀ L h' news' → StrsAre (vs ++ [.str y u]) (xs ++ [y]) → Q .none { s with heap := h' }) :
    wpAny (model prog w) A (call (.builtin "list.append") [.ref l, .str y u]) Q E s :=
  append_K F N (by rw [List.push_toArray]; exact U) (fun h' F' N' => h h' F' N' (hx.append' (.cons y u .nil))) (by rw [List.size_toArray, hx.len_eq, sizeLine_eq]; omega)
theorem txt_pop {Q : Value → Shared → Prop} (F : Fr h₀ L s.heap m) (N : News h₀ L s.heap news) (hx : StrsAre vs xs) (hne : xs ≠ []) (hsz : xs.length ≤ 100000)
    (U : Upd l (W.listOf vs.toArray n) (W.listOf vs.dropLast.toArray (n + 1)) news news')
    (h : ∀ h' t', Fr h₀ L h' m → News h₀ L h' news' → StrsAre vs.dropLast xs.dropLast → Q (.str (xs.getLastD default) t') { s with heap := h' }) :
    wpAny (model prog w) A (call (.builtin "list.pop") [.ref l]) Q E s := by
  obtain ⟨us, t', e, hu⟩ := strs_last hx hne
  subst e
  have e1 : (us ++ [Value.str (xs.getLastD default) t']).dropLast = us := by simp
  rw [e1] at U h
  refine kl_pop F N (p := us) (y := .str (xs.getLastD default) t') (by simpa using kpa_last (Value.str (xs.getLastD default) t') us) U ?_ fun h' F' N' => h h' t' F' N' hu
  rw [List.toList_toArray, hx.len_eq, sizeLine_eq]; omega
theorem txt_insert0 {Q : Value → Shared → Prop} (F : Fr h₀ L s.heap m) (N : News h₀ L s.heap news) (hx : StrsAre vs xs) (hsz : xs.length ≤ 100000)
    (U : Upd l (W.listOf vs.toArray n) (W.listOf (Value.str y u :: vs).toArray (n + 1)) news news')
    (h : ∀ h', Fr h₀ L h' m → News h₀ L h' news' → StrsAre (.str y u :: vs) (y :: xs) → Q .none { s with heap := h' }) :
    wpAny (model prog w) A (call (.builtin "list.insert") [.ref l, .int 0 t, .str y u]) Q E s :=
  kl_insert (l := Value.str y u :: vs) F N (by decide) (by show kl_ins vs 0 _ = _; simp [kl_ins]) U (by rw [List.toList_toArray, hx.len_eq, sizeLine_eq]; omega) fun h' F' N' => h h' F' N' (.cons y u hx)
theorem txt_add {Q : Value → Shared → Prop} (F : Fr h₀ L s.heap m) (N : News h₀ L s.heap news) (hm : (l, W.listOf vs.toArray n) ∈ news) (hx : StrsAre vs xs) (hm2 : (l2, W.listOf vs2.toArray n2) ∈ news) (hx2 : StrsAre vs2 xs2) (hsz : xs.length + xs2.length ≤ 100000)
    (h : ∀ D h', Fr h₀ L h' m → News h₀ L h' ((D, W.listOf (vs ++ vs2).toArray 0) :: news) → (∀ p ∈ news, p.1 < D) → StrsAre (vs ++ vs2) (xs ++ xs2) → Q (.ref D) { s with heap := h' }) :
    wpAny (model prog w) A (binaryOp .Add (.ref l) (.ref l2)) Q E s :=
  add_lists (hsz := by rw [hx.len_eq, hx2.len_eq, sizeLine_eq]; omega) F N (News.isList N hm) (News.isList N hm2) fun h' F' N' => h _ h' F' N' (fun p hp => Heap.lt_size (N p hp).1) (hx.append' hx2)
theorem txt_rev {vk : Value} {ops : List Value} {Q : Value → Shared → Prop} (F : Fr h₀ L s.heap m) (N : News h₀ L s.heap news) (hm : (l, W.listOf vs.toArray n) ∈ news) (hx : StrsAre vs xs) (hsz : xs.length ≤ 100000) (pk : IsPart vk (some (-1)))
    (h : ∀ D h' ws, Fr h₀ L h' m → News h₀ L h' ((D, W.listOf (List.toArray ws) 0) :: news) → (∀ p ∈ news, p.1 < D) → StrsAre ws xs.reverse → Q (.ref D) { s with heap := h' })
    (hs : subscripted slice false (.ref l) (.ref s.heap.objs.size) = operate ops (getItem (.ref l) (.ref s.heap.objs.size))) (ht : ∀ r, letTemporaryGo value (.ref l) r = pure ()) :
    wpAny (model prog w) A (subscriptTail value slice (.ref l) (.ref s.heap.objs.size)) Q E { s with heap := s.heap.push { cls := .type "slice", data := .fields #[.none, .none, vk] } } :=
  krv_lit (zs := vs.reverse) F N (News.isList N hm) pk (by rw [List.toList_toArray]) (fun D h' F' N' l1 => h D h' _ F' N' l1 (strs_rev hx)) hs ht (by rw [List.size_toArray, hx.len_eq, sizeLine_eq]; omega)

theorem clip_m1 (n : Nat) : clipAt n (-1) = n - 1 := clipAt_neg n 1 (Nat.le_refl 1)
theorem sub_min_r (k n : Nat) : n - min k n = n - k := by
  rcases Nat.le_total k n with h | h
  · rw [Nat.min_eq_left h]
  · rw [Nat.min_eq_right h, Nat.sub_self, Nat.sub_eq_zero_of_le h]
theorem pick_upto1 {vs : List Value} {xs : List Str} (h : StrsAre vs xs) : StrsAre (slicePick vs.toArray none (some (-1)) none).toList xs.dropLast := by
  rw [slicePick_plain]
  show StrsAre ((vs.drop 0).take (clipAt vs.toArray.size (-1) - 0)) _
  rw [clip_m1, List.drop_zero, Nat.sub_zero, List.size_toArray, List.dropLast_eq_take, h.len_eq]
  exact h.take' _
theorem pick_run1 {vs : List Value} {xs : List Str} {x : Int} (h : StrsAre vs xs) (h0 : 0 ≤ x) : StrsAre (slicePick vs.toArray (some x) (some (-1)) none).toList (xs.drop x.toNat).dropLast := by
  obtain ⟨k, rfl⟩ := Int.eq_ofNat_of_zero_le h0
  rw [slicePick_plain]
  show StrsAre ((vs.drop (clipAt vs.toArray.size (k : Int))).take (clipAt vs.toArray.size (-1) - clipAt vs.toArray.size (k : Int))) (xs.drop k).dropLast
  rw [clipAt_nat, clip_m1, List.size_toArray, kmk_drop_min, List.dropLast_eq_take, List.length_drop, h.len_eq, Nat.sub_right_comm, sub_min_r]
  exact (h.drop' _).take' _
theorem pick_from {vs : List Value} {xs : List Str} {x : Int} (h : StrsAre vs xs) (h0 : 0 ≤ x) : StrsAre (slicePick vs.toArray (some x) none none).toList (xs.drop x.toNat) := by
  obtain ⟨k, rfl⟩ := Int.eq_ofNat_of_zero_le h0
  rw [slicePick_plain]
  show StrsAre ((vs.drop (clipAt vs.toArray.size (k : Int))).take (vs.toArray.size - clipAt vs.toArray.size (k : Int))) (xs.drop k)
  rw [clipAt_nat, List.size_toArray, kmk_drop_min, sub_min_r, List.take_of_length_le (by rw [List.length_drop]; exact Nat.le_refl _)]
  exact h.drop' _
/-- a slice of a list of texts: ys what the pick is -/
theorem txt_slice {vl vu : Value} {lo hi : Option Int} {ys : List Str} {Q : Value → Shared → Prop} (F : Fr h₀ L s.heap m) (N : News h₀ L s.heap news) (hm : (l, W.listOf vs.toArray n) ∈ news) (hx : StrsAre vs xs) (hsz : xs.length ≤ 100000) (pl : IsPart vl lo) (pu : IsPart vu hi)
    (hp : StrsAre (slicePick vs.toArray lo hi none).toList ys)
    (h : ∀ D h' ws, Fr h₀ L h' m → News h₀ L h' ((D, W.listOf (List.toArray ws) 0) :: news) → (∀ p ∈ news, p.1 < D) → StrsAre ws ys → Q (.ref D) { s with heap := h' })
    (hs : subscripted slice false (.ref l) (.ref s.heap.objs.size) = operate [.ref s.heap.objs.size, .ref l] (getItem (.ref l) (.ref s.heap.objs.size))) (ht : ∀ r, letTemporaryGo value (.ref l) r = pure ()) :
    wpAny (model prog w) A (subscriptTail value slice (.ref l) (.ref s.heap.objs.size)) Q E { s with heap := s.heap.push { cls := .type "slice", data := .fields #[vl, vu, .none] } } :=
  kmk_slice_lit F N (News.isList N hm) pl pu rfl (fun D h' F' N' l1 => h D h' _ F' N' l1 hp) hs ht (by rw [List.size_toArray, hx.len_eq, sizeLine_eq]; omega)
theorem txt_split {Q : Value → Shared → Prop} (F : Fr h₀ L s.heap m) (N : News h₀ L s.heap news) (hy : (y.length == 0) = false) (hsz : x.length ≤ 1000000)
    (h : ∀ D h' ws k, Fr h₀ L h' m → News h₀ L h' ((D, W.listOf (List.toArray ws) 0) :: news) → (∀ p ∈ news, p.1 < D) → StrsAre ws (Txt.split x y) → Q (.ref D) { s with heap := h', toks := k }) :
    wpAny (model prog w) A (call (.builtin "str.split") [.str x t, .str y u]) Q E s :=
  splitN1 F N hy (fun lt h' k e F' N' => h _ h' (strValues lt) k F' N' (fun p hp => Heap.lt_size (N p hp).1) (e ▸ strsAre_of_values lt)) (by rw [sizeLine_eq]; omega)
end

theorem txt_join_len (x : Str) (xs : List Str) : (Txt.join x xs).length ≤ (xs.map (·.length)).sum + xs.length * x.length := by
  show (Builtin.Str.glued x xs).length ≤ _
  rw [StrLaws.glued_eq_join]; exact StrLaws.join_length_le x xs
theorem srRoot_len (x : Str) : (srRoot x).length ≤ x.length + 2 := by
  unfold srRoot
  split
  · exact Nat.zero_le _
  · split
    · exact Nat.le_trans (show (Str.ofString "/").length ≤ 2 by decide) (Nat.le_add_left _ _)
    · exact Nat.le_trans (Txt.slice_le _ _ _) (Nat.le_add_right _ _)
theorem srRest_len (x : Str) : (srRest x).length ≤ x.length := by
  unfold srRest
  split
  · exact Nat.le_refl _
  · split
    · exact Txt.slice_le _ _ _
    · exact Txt.slice_le _ _ _

theorem Tells.useT {w : World} {mean : ExcName → Option Value} {mg mb : Str → Option Value} {tk0 dd uu : Nat} {f : Addr} {news : Led} {vs : List Value} {x y z : Str}
    {dp un : Nat} {gd : Option (List Code)} {cn : Str} {cs : Scope} {a : Addr} {ccd : Value} {cl : List (Str × Addr)} {outer : List Env} {A₀ : Around} {base h₀ : Heap} {L : Addr} {m : Str → Option Value} {s : Shared} {Q E : Value → Shared → Prop}
    (B : Below A₀ base outer h₀) (F : Fr h₀ L s.heap m) (X : (pre.heap_1 w.params).In h₀) (N : News h₀ L s.heap news)
    (T : Top VV (looseW VV [Str.ofString "escape", Str.ofString "unescape"]) mean mg mb h₀) (hk : cs.kind = .function)
    (C : Tells w mean mg mb tk0 dd uu f news vs (RTri x y z))
    (hd : dp + dd < recursionLimit) (hu : un + uu < cLine) (htk : tk0 ≤ s.toks)
    (ret : ∀ D h' tk' t u v, Fr h₀ L h' m → News h₀ L h' ((D, tupOf [.str x t, .str y u, .str z v]) :: news) → tk0 ≤ tk' → Q (.ref D) { s with heap := h', toks := tk' }) :
    wpAny (model PySem.Challenge.rw_ij0051_01.row.prog w) (ktrTop dp un gd cn cs L a ccd cl outer) (call (.ref f) vs) Q E s :=
  C.use B F X N T hk hd hu htk fun r tl h' tk' F' N' ht ⟨D, t, u, v, e1, e2⟩ => by subst e1 e2; exact ret D h' tk' t u v F' N' ht
theorem Tells.useP {w : World} {mean : ExcName → Option Value} {mg mb : Str → Option Value} {tk0 dd uu : Nat} {f : Addr} {news : Led} {vs : List Value} {x y : Str}
    {dp un : Nat} {gd : Option (List Code)} {cn : Str} {cs : Scope} {a : Addr} {ccd : Value} {cl : List (Str × Addr)} {outer : List Env} {A₀ : Around} {base h₀ : Heap} {L : Addr} {m : Str → Option Value} {s : Shared} {Q E : Value → Shared → Prop}
    (B : Below A₀ base outer h₀) (F : Fr h₀ L s.heap m) (X : (pre.heap_1 w.params).In h₀) (N : News h₀ L s.heap news)
    (T : Top VV (looseW VV [Str.ofString "escape", Str.ofString "unescape"]) mean mg mb h₀) (hk : cs.kind = .function)
    (C : Tells w mean mg mb tk0 dd uu f news vs (RPair x y))
    (hd : dp + dd < recursionLimit) (hu : un + uu < cLine) (htk : tk0 ≤ s.toks)
    (ret : ∀ D h' tk' t u, Fr h₀ L h' m → News h₀ L h' ((D, tupOf [.str x t, .str y u]) :: news) → tk0 ≤ tk' → Q (.ref D) { s with heap := h', toks := tk' }) :
    wpAny (model PySem.Challenge.rw_ij0051_01.row.prog w) (ktrTop dp un gd cn cs L a ccd cl outer) (call (.ref f) vs) Q E s :=
  C.use B F X N T hk hd hu htk fun r tl h' tk' F' N' ht ⟨D, t, u, e1, e2⟩ => by subst e1 e2; exact ret D h' tk' t u F' N' ht
def npStep (init : Str) (acc : List Str) (comp : Str) : List Str :=
  if comp.length = 0 then acc else if (comp == Str.ofString ".") = true then acc else if (comp != Str.ofString "..") = true then acc ++ [comp]
  else if init.length = 0 ∧ acc.isEmpty = true then acc ++ [comp]
  else if acc.isEmpty = false ∧ (acc.getLastD default == Str.ofString "..") = true then acc ++ [comp] else if acc.isEmpty = false then acc.dropLast else acc
def npFold (init : Str) (cs : List Str) : List Str := cs.foldl (npStep init) []
def npBody (x : Str) : Str := srRoot x ++ Txt.join (Str.ofString "/") (npFold (srRoot x) (Txt.split (srRest x) (Str.ofString "/")))
def normP (x : Str) : Str := if x.length = 0 then Str.ofString "." else if (npBody x).length = 0 then Str.ofString "." else npBody x
theorem npFold_take {init : Str} {cs : List Str} {i : Nat} {c : Str} (h : cs[i]? = some c) : npFold init (cs.take (i + 1)) = npStep init (npFold init (cs.take i)) c := by
  unfold npFold
  rw [List.take_add_one, h, List.foldl_append]; rfl
theorem npStep_sum (init : Str) (acc : List Str) (c : Str) : ((npStep init acc c).map (·.length)).sum + (npStep init acc c).length ≤ ((acc.map (·.length)).sum + acc.length) + (c.length + 1) := by
  have h1 : ((acc ++ [c]).map (·.length)).sum + (acc ++ [c]).length ≤ ((acc.map (·.length)).sum + acc.length) + (c.length + 1) := by simp; omega
  have h2 : (acc.dropLast.map (·.length)).sum + acc.dropLast.length ≤ ((acc.map (·.length)).sum + acc.length) + (c.length + 1) := by
    rcases List.eq_nil_or_concat acc with rfl | ⟨l, a, rfl⟩
    · simp
    · simp; omega
  unfold npStep
  repeat' split
  all_goals first | assumption | omega
theorem npFold_sum (init : Str) (cs : List Str) : ∀ acc, ((cs.foldl (npStep init) acc).map (·.length)).sum + (cs.foldl (npStep init) acc).length ≤ ((acc.map (·.length)).sum + acc.length) + ((cs.map (·.length)).sum + cs.length) := by
  induction cs with
  | nil => intro acc; simp
  | cons c r ih =>
    intro acc
    have h1 := ih (npStep init acc c)
    have h2 := npStep_sum init acc c
    simp only [List.foldl_cons, List.map_cons, List.sum_cons, List.length_cons] at h1 ⊢
    omega
theorem npFold_room (init : Str) (cs : List Str) (i : Nat) : ((npFold init (cs.take i)).map (·.length)).sum + (npFold init (cs.take i)).length ≤ (cs.map (·.length)).sum + cs.length := by
  have h := npFold_sum init (cs.take i) []
  have h2 : ((cs.take i).map (·.length)).sum + (cs.take i).length ≤ (cs.map (·.length)).sum + cs.length := by
    have e : (cs.map (·.length)).sum + cs.length = (((cs.take i).map (·.length)).sum + (cs.take i).length) + (((cs.drop i).map (·.length)).sum + (cs.drop i).length) := by
      conv => lhs; rw [← List.take_append_drop i cs]
      rw [List.map_append, List.sum_append, List.length_append]; omega
    omega
  unfold npFold
  simp only [List.map_nil, List.sum_nil, List.length_nil] at h
  omega
section
variable {r y : Str} {ys : List Str}
theorem np_skip0 (h : y.length = 0) : npStep r ys y = ys := by unfold npStep; rw [if_pos h]
theorem np_skip1 (h0 : y.length ≠ 0) (h1 : (y == Str.ofString ".") = true) : npStep r ys y = ys := by unfold npStep; rw [if_neg h0, if_pos h1]
theorem np_app (h0 : y.length ≠ 0) (h1 : (y == Str.ofString ".") = false) (h2 : (y != Str.ofString "..") = true) : npStep r ys y = ys ++ [y] := by unfold npStep; rw [if_neg h0, h1, if_neg (by decide), if_pos h2]
theorem np_app2 (h0 : y.length ≠ 0) (h1 : (y == Str.ofString ".") = false) (h2 : (y != Str.ofString "..") = false) (h3 : r.length = 0) (h4 : ys.isEmpty = true) : npStep r ys y = ys ++ [y] := by
  unfold npStep; rw [if_neg h0, h1, if_neg (by decide), h2, if_neg (by decide), if_pos ⟨h3, h4⟩]
theorem np_app3 (h0 : y.length ≠ 0) (h1 : (y == Str.ofString ".") = false) (h2 : (y != Str.ofString "..") = false) (h4 : ys.isEmpty = false) (h5 : (ys.getLastD default == Str.ofString "..") = true) : npStep r ys y = ys ++ [y] := by
  unfold npStep; rw [if_neg h0, h1, if_neg (by decide), h2, if_neg (by decide), if_neg (by rw [h4]; simp), if_pos ⟨h4, h5⟩]
theorem np_pop (h0 : y.length ≠ 0) (h1 : (y == Str.ofString ".") = false) (h2 : (y != Str.ofString "..") = false) (h4 : ys.isEmpty = false) (h5 : (ys.getLastD default == Str.ofString "..") = false) : npStep r ys y = ys.dropLast := by
  unfold npStep; rw [if_neg h0, h1, if_neg (by decide), h2, if_neg (by decide), if_neg (by rw [h4]; simp), if_neg (by rw [h5]; simp), if_pos h4]
theorem np_nop (h0 : y.length ≠ 0) (h1 : (y == Str.ofString ".") = false) (h2 : (y != Str.ofString "..") = false) (h3 : r.length ≠ 0) (h4 : ys.isEmpty = true) : npStep r ys y = ys := by
  unfold npStep; rw [if_neg h0, h1, if_neg (by decide), h2, if_neg (by decide), if_neg (by simp [h3]), if_neg (by rw [h4]; simp), if_neg (by rw [h4]; simp)]
end
theorem norm_ok {w : World} {mean : ExcName → Option Value} {mg mb : Str → Option Value} {news : List (Addr × Obj)} (x : Str) (t : Tok) (hx : x.length ≤ 10000) (hsp : ((Txt.split (srRest x) (Str.ofString "/")).map (·.length)).sum + (Txt.split (srRest x) (Str.ofString "/")).length ≤ 100000) :
    Tells w mean mg mb 0 3 48 161 news [.str x t] (RStr (normP x)) := by
  w_on
  w_strict (
    refine Tells.of ?_
    unfold Tells0
    k_fill
    intro dp un gd cn cs a ccd cl outer A₀ base h₀ L m s Q E B F X N T hk hd hu htk hret
    refine wpAny_call ?_
    k_dflt cell_enter
    have hrr := srRoot_len x
    have hrs := srRest_len x
    repeat' ((fail_if_success (with_reducible show wpAny _ _ (pyIter _) _ _ _)); ((first | ((with_reducible show wpAny _ _ (call (Value.ref 154) _) _ _ _); (k_here; k_dflt (refine' Tells.useT ?k1Qz ?k2Qz ?k3Qz ?k4Qz ?k5Qz ?k6Qz (splitroot_ok _ _ (by omega)) ?k7Qz ?k8Qz ?k9Qz ?_; (case k1Qz => k_asm); (case k2Qz => k_asm); (case k3Qz => k_asm); (case k4Qz => k_asm); (case k5Qz => k_asm); (case k6Qz => first | exact rfl | assumption); (case k7Qz => ktr_room); (case k8Qz => ktr_units); (case k9Qz => first | exact Nat.zero_le _ | omega); k_whole); intro D9 h9 tk9 _ _ _ F9 N9 htk9)) | ((with_reducible show wpAny _ _ (call (Value.builtin "str.split") _) _ _ _); (k_here; (try dsimp only [List.cons_append, List.nil_append]); (with_reducible show wpAny _ _ (call (Value.builtin _) [Value.str _ _, Value.str _ _]) _ _ _); k_dflt (refine' txt_split ?k1Qz ?k2Qz ?k3Qz ?k4Qz ?_; (case k1Qz => k_asm); (case k2Qz => k_asm); (case k3Qz => rfl); (case k4Qz => omega); k_whole); intro D' h' ws k9 F' N' l1 hs9; (try k_lt l1); (try k_sweep))) | ((with_reducible show wpAny _ _ (subscriptTail _ (PySem.Expr.Slice _ _ _ _) (Value.ref _) (Value.ref _)) _ _ _); (k_here; (with_reducible show wpAny _ _ (subscriptTail _ (PySem.Expr.Slice _ _ none _) (Value.ref _) (Value.ref _)) _ _ _); k_dflt (refine' txt_slice ?FQz ?NQz ?mQz ?xQz ?zQz ?pQz ?qQz ?yQz ?_ ?sQz ?tQz; (case FQz => k_asm); (case NQz => k_asm); (case mQz => k_mem); (case xQz => assumption); (case zQz => omega); (case pQz => first | exact IsPart.none | exact IsPart.int _ _); (case qQz => first | exact IsPart.none | exact IsPart.int _ _); (case yQz => first | exact pick_upto1 (by assumption) | exact pick_run1 (by assumption) (by omega) | exact pick_from (by assumption) (by omega)); (case sQz => with_unfolding_all rfl); (case tQz => (intro _; with_unfolding_all rfl)); k_whole); intro D' h' ws F' N' l1 hs9; (try k_lt l1); (try k_sweep))) | ((with_reducible show wpAny _ _ (subscriptTail _ (PySem.Expr.Slice _ _ _ _) (Value.ref _) (Value.ref _)) _ _ _); (k_here; (with_reducible show wpAny _ _ (subscriptTail _ (PySem.Expr.Slice none none (some _) _) (Value.ref _) (Value.ref _)) _ _ _); k_dflt (refine' txt_rev ?FQz ?NQz ?mQz ?xQz ?zQz ?kQz ?_ ?sQz ?tQz; (case FQz => k_asm); (case NQz => k_asm); (case mQz => k_mem); (case xQz => assumption); (case zQz => omega); (case kQz => exact IsPart.int _ _); (case sQz => with_unfolding_all rfl); (case tQz => (intro _; with_unfolding_all rfl)); k_whole); intro D' h' ws F' N' l1 hs9; (try k_lt l1); (try k_sweep))) | ((with_reducible show wpAny _ _ (binaryOp Operator.Add (Value.ref _) (Value.ref _)) _ _ _); (k_here; (with_reducible show wpAny _ _ (binaryOp _ (Value.ref _) (Value.ref _)) _ _ _); k_dflt (refine' txt_add ?k1Qz ?k2Qz ?k3Qz ?k4Qz ?k5Qz ?k6Qz ?k7Qz ?_; (case k1Qz => k_asm); (case k2Qz => k_asm); (case k3Qz => k_mem); (case k4Qz => assumption); (case k5Qz => k_mem); (case k6Qz => assumption); (case k7Qz => omega); k_whole); intro D' h' F' N' l1 hs9; (try k_lt l1); (try k_sweep))) | ((with_reducible show wpAny _ _ (call (Value.builtin "list.insert") _) _ _ _); (k_here; (try dsimp only [List.cons_append, List.nil_append]); (with_reducible show wpAny _ _ (call (Value.builtin _) [Value.ref _, Value.int 0 _, Value.str _ _]) _ _ _); k_dflt (refine' txt_insert0 ?k1Qz ?k2Qz ?k3Qz ?k4Qz ?k5Qz ?_; (case k1Qz => k_asm); (case k2Qz => k_asm); (case k5Qz => k_upd); (case k3Qz => assumption); (case k4Qz => omega); k_whole); intro h' F' N' hs9; (try k_sweep))) | ((with_reducible show wpAny _ _ (call (Value.builtin "list.pop") _) _ _ _); (k_here; (try dsimp only [List.cons_append, List.nil_append]); (with_reducible show wpAny _ _ (call (Value.builtin _) [Value.ref _]) _ _ _); k_dflt (refine' txt_pop ?k1Qz ?k2Qz ?k3Qz ?k6Qz ?k4Qz ?k5Qz ?_; (case k1Qz => k_asm); (case k2Qz => k_asm); (case k5Qz => k_upd); (case k3Qz => assumption); (case k4Qz => omega); (case k6Qz => first | assumption | exact ne1 (by assumption) | exact ne2 (by assumption)); k_whole); intro h' t9 F' N' hs9; (try k_sweep))) | ((with_reducible show wpAny _ _ (call (Value.builtin "list.append") _) _ _ _); (k_here; (try dsimp only [List.cons_append, List.nil_append]); (with_reducible show wpAny _ _ (call (Value.builtin _) [Value.ref _, Value.str _ _]) _ _ _); k_dflt (refine' txt_append ?k1Qz ?k2Qz ?k3Qz ?k4Qz ?k5Qz ?_; (case k1Qz => k_asm); (case k2Qz => k_asm); (case k5Qz => k_upd); (case k3Qz => assumption); (case k4Qz => omega); k_whole); intro h' F' N' hs9; (try k_sweep))) | ((with_reducible show wpAny _ _ (call (Value.builtin "str.join") _) _ _ _); (k_here; (try dsimp only [List.cons_append, List.nil_append]); (with_reducible show wpAny _ _ (call (Value.builtin _) [Value.str _ _, Value.ref _]) _ _ _); k_dflt (refine' txt_join ?k1Qz ?k2Qz ?k3Qz ?k4Qz ?_; (case k1Qz => k_asm); (case k2Qz => k_mem); (case k3Qz => assumption); (case k4Qz => first | assumption | omega); k_whole); intro t9 k9)) | ((with_reducible show wpAny _ _ (call (Value.builtin "len") _) _ _ _); (k_here; (with_reducible show wpAny _ _ (call (Value.builtin _) [Value.ref _]) _ _ _); k_dflt (refine' txt_len ?k1Qz ?k2Qz ?k3Qz ?k4Qz ?_; (case k1Qz => k_asm); (case k2Qz => k_mem); (case k3Qz => assumption); (case k4Qz => omega); k_whole))) | ((with_reducible show wpAny _ _ (truthy (Value.ref _)) _ _ _); (k_here; k_dflt (refine' txt_truthy ?k1Qz ?k2Qz ?k3Qz ?k4Qz ?_; (case k1Qz => k_asm); (case k2Qz => k_mem); (case k3Qz => assumption); (case k4Qz => omega); k_whole))) | ((with_reducible show wpAny _ _ (subscriptTail _ _ (Value.ref _) (Value.int _ _)) _ _ _); (k_here; (with_reducible show wpAny _ _ (subscriptTail _ _ (Value.ref _) (Value.int (-1) _)) _ _ _); k_dflt (refine' txt_last ?k1Qz ?k2Qz ?k3Qz ?k4Qz ?_ ?k5Qz ?k6Qz; (case k1Qz => k_asm); (case k2Qz => k_mem); (case k3Qz => assumption); (case k4Qz => first | assumption | exact ne1 (by assumption) | exact ne2 (by assumption)); (case k5Qz => with_unfolding_all rfl); (case k6Qz => (intro _; with_unfolding_all rfl)); k_whole); intro t9)) | ((with_reducible show wpAny _ _ (binaryOp Operator.Add (Value.str _ _) (Value.str _ _)) _ _ _); ((with_reducible show wpAny _ _ (binaryOp Operator.Add (Value.str _ _) (Value.str _ _)) _ _ _); (refine SB.add (hsz := ?hszQz) ?_); (case hszQz => (rw [PySem.sizeLine_eq]; (try simp only [Str.length_append]); omega)); intro t9 k9)) | ((with_reducible show wpAny _ _ (call (Value.builtin "list.append") _) _ _ _); (k_here; (try dsimp only [List.cons_append, List.nil_append]); (with_reducible show wpAny _ _ (call (Value.builtin _) [Value.ref _, _]) _ _ _); k_dflt (refine' append_K ?k1Qz ?k2Qz ?k3Qz ?_ ?zQz; (case k1Qz => k_asm); (case k2Qz => k_asm); (case k3Qz => k_upd); (case zQz => size_fits); k_whole); intro h' F' N'; (try k_sweep))) | ((with_reducible show wpAny _ _ (exec (PySem.Stmt.For (PySem.Expr.Name _ _) (PySem.Expr.Subscript _ _ _) _ _ _) _) _ _ _); (k_here; (rename Fr _ _ _ _ => lF'); (with_unfolding_all refine' For_invVF lF' ?k1Qz ?k2Qz ?_; (case k1Qz => exact rfl); (case k2Qz => exact rfl); k_whole))) | ((with_reducible show wpAny _ _ (exec (PySem.Stmt.For (PySem.Expr.Name _ _) (PySem.Expr.Call _ _ _ _) _ _ _) _) _ _ _); (k_here; (rename Fr _ _ _ _ => lF'); (with_unfolding_all refine' For_invVF lF' ?k1Qz ?k2Qz ?_; (case k1Qz => exact rfl); (case k2Qz => exact rfl); k_whole))) | ((with_reducible show wpAny _ _ (exec (PySem.Stmt.For (PySem.Expr.Name _ _) (PySem.Expr.Name _ _) _ _ _) _) _ _ _); (k_here; (rename Fr _ _ _ _ => lF'); (with_unfolding_all refine' For_invVF lF' ?k1Qz ?k2Qz ?_; (case k1Qz => exact rfl); (case k2Qz => exact rfl); k_whole))) | ((with_reducible show wpAny _ _ (call (Value.ref 119) _) _ _ _); (k_here; k_dflt (refine' Tells.useS ?k1Qz ?k2Qz ?k3Qz ?k4Qz ?k5Qz ?k6Qz (fspath_ok _ _) ?k7Qz ?k8Qz ?k9Qz ?_; (case k1Qz => k_asm); (case k2Qz => k_asm); (case k3Qz => k_asm); (case k4Qz => k_asm); (case k5Qz => k_asm); (case k6Qz => first | exact rfl | assumption); (case k7Qz => ktr_room); (case k8Qz => ktr_units); (case k9Qz => first | exact Nat.zero_le _ | omega); k_whole; intro t9 h9 tk9 F9 N9 htk9))) | walk1) <;> (try dsimp only)))
    · rename News _ _ _ _ => N1
      rename Fr _ _ _ _ => F1
      rename _ < _ ∧ _ < _ ∧ AllLt _ news => hl1
      rename StrsAre _ (Txt.split _ _) => hws
      refine iter_list (σ := List Value × List Str × Nat) (fun _ m => m) (fun st => (_, W.listOf st.1.toArray st.2.2) :: (_, W.listOf _ 0) :: (_, _) :: news) (fun i st => StrsAre st.1 st.2.1 ∧ st.2.1 = npFold (srRoot x) ((Txt.split (srRest x) (Str.ofString "/")).take i)) ([], [], 0) (_ :: _ :: _ :: news.map (·.1)) rfl F1 N1 (.tail _ (.head _)) (fun st => rfl) (fun z => rfl) (fun p hp => hp) ⟨.nil, rfl⟩ ?_ ?_
      · rintro i v ⟨us, ys, c⟩ h tk own hv' ⟨hs, hy⟩ hoff F2 N2
        clear N1 F1
        obtain ⟨y, t, rfl, hyi, hym⟩ := strs_get hws hv'
        have hroom := npFold_room (srRoot x) (Txt.split (srRest x) (Str.ofString "/")) i
        have hyl := len_le_sum hym
        dsimp only [List.cons_append] at F2 N2 hs hy hoff ⊢
        rw [← hy] at hroom
        have hyn : ys.length ≤ 100000 := by omega
        have hne' := off_append (ne_of_allLt hl1.2.2) (hoff _ (.head _) (Nat.ne_of_gt hl1.1))
        have hlt1 := hl1.1
        have hlt2 := hl1.2.1
        (with_reducible show wpAny _ _ _ _ _ _)
        k_fold
        repeat' ((fail_if_success (with_reducible show wpAny _ _ (pyIter _) _ _ _)); ((first | ((with_reducible show wpAny _ _ (call (Value.ref 154) _) _ _ _); (k_here; k_dflt (refine' Tells.useT ?k1Qz ?k2Qz ?k3Qz ?k4Qz ?k5Qz ?k6Qz (splitroot_ok _ _ (by omega)) ?k7Qz ?k8Qz ?k9Qz ?_; (case k1Qz => k_asm); (case k2Qz => k_asm); (case k3Qz => k_asm); (case k4Qz => k_asm); (case k5Qz => k_asm); (case k6Qz => first | exact rfl | assumption); (case k7Qz => ktr_room); (case k8Qz => ktr_units); (case k9Qz => first | exact Nat.zero_le _ | omega); k_whole); intro D9 h9 tk9 _ _ _ F9 N9 htk9)) | ((with_reducible show wpAny _ _ (call (Value.builtin "str.split") _) _ _ _); (k_here; (try dsimp only [List.cons_append, List.nil_append]); (with_reducible show wpAny _ _ (call (Value.builtin _) [Value.str _ _, Value.str _ _]) _ _ _); k_dflt (refine' txt_split ?k1Qz ?k2Qz ?k3Qz ?k4Qz ?_; (case k1Qz => k_asm); (case k2Qz => k_asm); (case k3Qz => rfl); (case k4Qz => omega); k_whole); intro D' h' ws k9 F' N' l1 hs9; (try k_lt l1); (try k_sweep))) | ((with_reducible show wpAny _ _ (subscriptTail _ (PySem.Expr.Slice _ _ _ _) (Value.ref _) (Value.ref _)) _ _ _); (k_here; (with_reducible show wpAny _ _ (subscriptTail _ (PySem.Expr.Slice _ _ none _) (Value.ref _) (Value.ref _)) _ _ _); k_dflt (refine' txt_slice ?FQz ?NQz ?mQz ?xQz ?zQz ?pQz ?qQz ?yQz ?_ ?sQz ?tQz; (case FQz => k_asm); (case NQz => k_asm); (case mQz => k_mem); (case xQz => assumption); (case zQz => omega); (case pQz => first | exact IsPart.none | exact IsPart.int _ _); (case qQz => first | exact IsPart.none | exact IsPart.int _ _); (case yQz => first | exact pick_upto1 (by assumption) | exact pick_run1 (by assumption) (by omega) | exact pick_from (by assumption) (by omega)); (case sQz => with_unfolding_all rfl); (case tQz => (intro _; with_unfolding_all rfl)); k_whole); intro D' h' ws F' N' l1 hs9; (try k_lt l1); (try k_sweep))) | ((with_reducible show wpAny _ _ (subscriptTail _ (PySem.Expr.Slice _ _ _ _) (Value.ref _) (Value.ref _)) _ _ _); (k_here; (with_reducible show wpAny _ _ (subscriptTail _ (PySem.Expr.Slice none none (some _) _) (Value.ref _) (Value.ref _)) _ _ _); k_dflt (refine' txt_rev ?FQz ?NQz ?mQz ?xQz ?zQz ?kQz ?_ ?sQz ?tQz; (case FQz => k_asm); (case NQz => k_asm); (case mQz => k_mem); (case xQz => assumption); (case zQz => omega); (case kQz => exact IsPart.int _ _); (case sQz => with_unfolding_all rfl); (case tQz => (intro _; with_unfolding_all rfl)); k_whole); intro D' h' ws F' N' l1 hs9; (try k_lt l1); (try k_sweep))) | ((with_reducible show wpAny _ _ (binaryOp Operator.Add (Value.ref _) (Value.ref _)) _ _ _); (k_here; (with_reducible show wpAny _ _ (binaryOp _ (Value.ref _) (Value.ref _)) _ _ _); k_dflt (refine' txt_add ?k1Qz ?k2Qz ?k3Qz ?k4Qz ?k5Qz ?k6Qz ?k7Qz ?_; (case k1Qz => k_asm); (case k2Qz => k_asm); (case k3Qz => k_mem); (case k4Qz => assumption); (case k5Qz => k_mem); (case k6Qz => assumption); (case k7Qz => omega); k_whole); intro D' h' F' N' l1 hs9; (try k_lt l1); (try k_sweep))) | ((with_reducible show wpAny _ _ (call (Value.builtin "list.insert") _) _ _ _); (k_here; (try dsimp only [List.cons_append, List.nil_append]); (with_reducible show wpAny _ _ (call (Value.builtin _) [Value.ref _, Value.int 0 _, Value.str _ _]) _ _ _); k_dflt (refine' txt_insert0 ?k1Qz ?k2Qz ?k3Qz ?k4Qz ?k5Qz ?_; (case k1Qz => k_asm); (case k2Qz => k_asm); (case k5Qz => k_upd); (case k3Qz => assumption); (case k4Qz => omega); k_whole); intro h' F' N' hs9; (try k_sweep))) | ((with_reducible show wpAny _ _ (call (Value.builtin "list.pop") _) _ _ _); (k_here; (try dsimp only [List.cons_append, List.nil_append]); (with_reducible show wpAny _ _ (call (Value.builtin _) [Value.ref _]) _ _ _); k_dflt (refine' txt_pop ?k1Qz ?k2Qz ?k3Qz ?k6Qz ?k4Qz ?k5Qz ?_; (case k1Qz => k_asm); (case k2Qz => k_asm); (case k5Qz => k_upd); (case k3Qz => assumption); (case k4Qz => omega); (case k6Qz => first | assumption | exact ne1 (by assumption) | exact ne2 (by assumption)); k_whole); intro h' t9 F' N' hs9; (try k_sweep))) | ((with_reducible show wpAny _ _ (call (Value.builtin "list.append") _) _ _ _); (k_here; (try dsimp only [List.cons_append, List.nil_append]); (with_reducible show wpAny _ _ (call (Value.builtin _) [Value.ref _, Value.str _ _]) _ _ _); k_dflt (refine' txt_append ?k1Qz ?k2Qz ?k3Qz ?k4Qz ?k5Qz ?_; (case k1Qz => k_asm); (case k2Qz => k_asm); (case k5Qz => k_upd); (case k3Qz => assumption); (case k4Qz => omega); k_whole); intro h' F' N' hs9; (try k_sweep))) | ((with_reducible show wpAny _ _ (call (Value.builtin "str.join") _) _ _ _); (k_here; (try dsimp only [List.cons_append, List.nil_append]); (with_reducible show wpAny _ _ (call (Value.builtin _) [Value.str _ _, Value.ref _]) _ _ _); k_dflt (refine' txt_join ?k1Qz ?k2Qz ?k3Qz ?k4Qz ?_; (case k1Qz => k_asm); (case k2Qz => k_mem); (case k3Qz => assumption); (case k4Qz => first | assumption | omega); k_whole); intro t9 k9)) | ((with_reducible show wpAny _ _ (call (Value.builtin "len") _) _ _ _); (k_here; (with_reducible show wpAny _ _ (call (Value.builtin _) [Value.ref _]) _ _ _); k_dflt (refine' txt_len ?k1Qz ?k2Qz ?k3Qz ?k4Qz ?_; (case k1Qz => k_asm); (case k2Qz => k_mem); (case k3Qz => assumption); (case k4Qz => omega); k_whole))) | ((with_reducible show wpAny _ _ (truthy (Value.ref _)) _ _ _); (k_here; k_dflt (refine' txt_truthy ?k1Qz ?k2Qz ?k3Qz ?k4Qz ?_; (case k1Qz => k_asm); (case k2Qz => k_mem); (case k3Qz => assumption); (case k4Qz => omega); k_whole))) | ((with_reducible show wpAny _ _ (subscriptTail _ _ (Value.ref _) (Value.int _ _)) _ _ _); (k_here; (with_reducible show wpAny _ _ (subscriptTail _ _ (Value.ref _) (Value.int (-1) _)) _ _ _); k_dflt (refine' txt_last ?k1Qz ?k2Qz ?k3Qz ?k4Qz ?_ ?k5Qz ?k6Qz; (case k1Qz => k_asm); (case k2Qz => k_mem); (case k3Qz => assumption); (case k4Qz => first | assumption | exact ne1 (by assumption) | exact ne2 (by assumption)); (case k5Qz => with_unfolding_all rfl); (case k6Qz => (intro _; with_unfolding_all rfl)); k_whole); intro t9)) | ((with_reducible show wpAny _ _ (binaryOp Operator.Add (Value.str _ _) (Value.str _ _)) _ _ _); ((with_reducible show wpAny _ _ (binaryOp Operator.Add (Value.str _ _) (Value.str _ _)) _ _ _); (refine SB.add (hsz := ?hszQz) ?_); (case hszQz => (rw [PySem.sizeLine_eq]; (try simp only [Str.length_append]); omega)); intro t9 k9)) | ((with_reducible show wpAny _ _ (call (Value.builtin "list.append") _) _ _ _); (k_here; (try dsimp only [List.cons_append, List.nil_append]); (with_reducible show wpAny _ _ (call (Value.builtin _) [Value.ref _, _]) _ _ _); k_dflt (refine' append_K ?k1Qz ?k2Qz ?k3Qz ?_ ?zQz; (case k1Qz => k_asm); (case k2Qz => k_asm); (case k3Qz => k_upd); (case zQz => size_fits); k_whole); intro h' F' N'; (try k_sweep))) | ((with_reducible show wpAny _ _ (exec (PySem.Stmt.For (PySem.Expr.Name _ _) (PySem.Expr.Subscript _ _ _) _ _ _) _) _ _ _); (k_here; (rename Fr _ _ _ _ => lF'); (with_unfolding_all refine' For_invVF lF' ?k1Qz ?k2Qz ?_; (case k1Qz => exact rfl); (case k2Qz => exact rfl); k_whole))) | ((with_reducible show wpAny _ _ (exec (PySem.Stmt.For (PySem.Expr.Name _ _) (PySem.Expr.Call _ _ _ _) _ _ _) _) _ _ _); (k_here; (rename Fr _ _ _ _ => lF'); (with_unfolding_all refine' For_invVF lF' ?k1Qz ?k2Qz ?_; (case k1Qz => exact rfl); (case k2Qz => exact rfl); k_whole))) | ((with_reducible show wpAny _ _ (exec (PySem.Stmt.For (PySem.Expr.Name _ _) (PySem.Expr.Name _ _) _ _ _) _) _ _ _); (k_here; (rename Fr _ _ _ _ => lF'); (with_unfolding_all refine' For_invVF lF' ?k1Qz ?k2Qz ?_; (case k1Qz => exact rfl); (case k2Qz => exact rfl); k_whole))) | ((with_reducible show wpAny _ _ (call (Value.ref 119) _) _ _ _); (k_here; k_dflt (refine' Tells.useS ?k1Qz ?k2Qz ?k3Qz ?k4Qz ?k5Qz ?k6Qz (fspath_ok _ _) ?k7Qz ?k8Qz ?k9Qz ?_; (case k1Qz => k_asm); (case k2Qz => k_asm); (case k3Qz => k_asm); (case k4Qz => k_asm); (case k5Qz => k_asm); (case k6Qz => first | exact rfl | assumption); (case k7Qz => ktr_room); (case k8Qz => ktr_units); (case k9Qz => first | exact Nat.zero_le _ | omega); k_whole; intro t9 h9 tk9 F9 N9 htk9))) | walk1) <;> (try dsimp only)))
        all_goals (
          k_unfold; dsimp only [StPost]; rename Fr _ _ _ _ => F9; rename News _ _ _ _ => N9
          refine' StEnd.intro (_, _, _) F9 N9 (mem2 (List.Mem.head _) (mem2 (.tail _ (.head _)) (mem2 (.tail _ (.tail _ (.head _))) fun p hp => .tail _ (.tail _ (.tail _ (List.mem_append_left _ hp)))))) (fun p hp => .tail _ (.tail _ (.tail _ (List.mem_append_right _ hp)))) (fun z hz => if_neg hz) ⟨by assumption, ?_⟩
          rw [npFold_take hyi, ← hy]
          first
            | exact (np_skip0 (by omega)).symm
            | exact (np_skip1 (by omega) (by assumption)).symm
            | exact (np_app (by omega) (by assumption) (by assumption)).symm
            | exact (np_app2 (by omega) (by assumption) (by assumption) (by omega) (by assumption)).symm
            | exact (np_app3 (by omega) (by assumption) (by assumption) (by assumption) (by assumption)).symm
            | exact (np_pop (by omega) (by assumption) (by assumption) (by assumption) (by assumption)).symm
            | exact (np_nop (by omega) (by assumption) (by assumption) (by omega) (by assumption)).symm)
      · rintro u ⟨us, ys, c⟩ h tk ⟨hs, hy⟩ F2 N2
        dsimp only at hs hy N2 ⊢
        have hy' : ys = npFold (srRoot x) (Txt.split (srRest x) (Str.ofString "/")) := by rw [hy, List.take_of_length_le (by rw [List.size_toArray, hws.len_eq]; exact Nat.le_refl _)]
        have hroom := npFold_room (srRoot x) (Txt.split (srRest x) (Str.ofString "/")) (Txt.split (srRest x) (Str.ofString "/")).length
        rw [List.take_length, ← hy'] at hroom
        have hone : (Str.ofString "/").length = 1 := by decide
        have hok : (ys.map (·.length)).sum + ys.length * (Str.ofString "/").length ≤ 16777216 := by rw [hone]; omega
        have hjl := txt_join_len (Str.ofString "/") ys
        rw [hone] at hjl
        repeat' ((fail_if_success (with_reducible show wpAny _ _ (pyIter _) _ _ _)); ((first | ((with_reducible show wpAny _ _ (call (Value.ref 154) _) _ _ _); (k_here; k_dflt (refine' Tells.useT ?k1Qz ?k2Qz ?k3Qz ?k4Qz ?k5Qz ?k6Qz (splitroot_ok _ _ (by omega)) ?k7Qz ?k8Qz ?k9Qz ?_; (case k1Qz => k_asm); (case k2Qz => k_asm); (case k3Qz => k_asm); (case k4Qz => k_asm); (case k5Qz => k_asm); (case k6Qz => first | exact rfl | assumption); (case k7Qz => ktr_room); (case k8Qz => ktr_units); (case k9Qz => first | exact Nat.zero_le _ | omega); k_whole); intro D9 h9 tk9 _ _ _ F9 N9 htk9)) | ((with_reducible show wpAny _ _ (call (Value.builtin "str.split") _) _ _ _); (k_here; (try dsimp only [List.cons_append, List.nil_append]); (with_reducible show wpAny _ _ (call (Value.builtin _) [Value.str _ _, Value.str _ _]) _ _ _); k_dflt (refine' txt_split ?k1Qz ?k2Qz ?k3Qz ?k4Qz ?_; (case k1Qz => k_asm); (case k2Qz => k_asm); (case k3Qz => rfl); (case k4Qz => omega); k_whole); intro D' h' ws k9 F' N' l1 hs9; (try k_lt l1); (try k_sweep))) | ((with_reducible show wpAny _ _ (subscriptTail _ (PySem.Expr.Slice _ _ _ _) (Value.ref _) (Value.ref _)) _ _ _); (k_here; (with_reducible show wpAny _ _ (subscriptTail _ (PySem.Expr.Slice _ _ none _) (Value.ref _) (Value.ref _)) _ _ _); k_dflt (refine' txt_slice ?FQz ?NQz ?mQz ?xQz ?zQz ?pQz ?qQz ?yQz ?_ ?sQz ?tQz; (case FQz => k_asm); (case NQz => k_asm); (case mQz => k_mem); (case xQz => assumption); (case zQz => omega); (case pQz => first | exact IsPart.none | exact IsPart.int _ _); (case qQz => first | exact IsPart.none | exact IsPart.int _ _); (case yQz => first | exact pick_upto1 (by assumption) | exact pick_run1 (by assumption) (by omega) | exact pick_from (by assumption) (by omega)); (case sQz => with_unfolding_all rfl); (case tQz => (intro _; with_unfolding_all rfl)); k_whole); intro D' h' ws F' N' l1 hs9; (try k_lt l1); (try k_sweep))) | ((with_reducible show wpAny _ _ (subscriptTail _ (PySem.Expr.Slice _ _ _ _) (Value.ref _) (Value.ref _)) _ _ _); (k_here; (with_reducible show wpAny _ _ (subscriptTail _ (PySem.Expr.Slice none none (some _) _) (Value.ref _) (Value.ref _)) _ _ _); k_dflt (refine' txt_rev ?FQz ?NQz ?mQz ?xQz ?zQz ?kQz ?_ ?sQz ?tQz; (case FQz => k_asm); (case NQz => k_asm); (case mQz => k_mem); (case xQz => assumption); (case zQz => omega); (case kQz => exact IsPart.int _ _); (case sQz => with_unfolding_all rfl); (case tQz => (intro _; with_unfolding_all rfl)); k_whole); intro D' h' ws F' N' l1 hs9; (try k_lt l1); (try k_sweep))) | ((with_reducible show wpAny _ _ (binaryOp Operator.Add (Value.ref _) (Value.ref _)) _ _ _); (k_here; (with_reducible show wpAny _ _ (binaryOp _ (Value.ref _) (Value.ref _)) _ _ _); k_dflt (refine' txt_add ?k1Qz ?k2Qz ?k3Qz ?k4Qz ?k5Qz ?k6Qz ?k7Qz ?_; (case k1Qz => k_asm); (case k2Qz => k_asm); (case k3Qz => k_mem); (case k4Qz => assumption); (case k5Qz => k_mem); (case k6Qz => assumption); (case k7Qz => omega); k_whole); intro D' h' F' N' l1 hs9; (try k_lt l1); (try k_sweep))) | ((with_reducible show wpAny _ _ (call (Value.builtin "list.insert") _) _ _ _); (k_here; (try dsimp only [List.cons_append, List.nil_append]); (with_reducible show wpAny _ _ (call (Value.builtin _) [Value.ref _, Value.int 0 _, Value.str _ _]) _ _ _); k_dflt (refine' txt_insert0 ?k1Qz ?k2Qz ?k3Qz ?k4Qz ?k5Qz ?_; (case k1Qz => k_asm); (case k2Qz => k_asm); (case k5Qz => k_upd); (case k3Qz => assumption); (case k4Qz => omega); k_whole); intro h' F' N' hs9; (try k_sweep))) | ((with_reducible show wpAny _ _ (call (Value.builtin "list.pop") _) _ _ _); (k_here; (try dsimp only [List.cons_append, List.nil_append]); (with_reducible show wpAny _ _ (call (Value.builtin _) [Value.ref _]) _ _ _); k_dflt (refine' txt_pop ?k1Qz ?k2Qz ?k3Qz ?k6Qz ?k4Qz ?k5Qz ?_; (case k1Qz => k_asm); (case k2Qz => k_asm); (case k5Qz => k_upd); (case k3Qz => assumption); (case k4Qz => omega); (case k6Qz => first | assumption | exact ne1 (by assumption) | exact ne2 (by assumption)); k_whole); intro h' t9 F' N' hs9; (try k_sweep))) | ((with_reducible show wpAny _ _ (call (Value.builtin "list.append") _) _ _ _); (k_here; (try dsimp only [List.cons_append, List.nil_append]); (with_reducible show wpAny _ _ (call (Value.builtin _) [Value.ref _, Value.str _ _]) _ _ _); k_dflt (refine' txt_append ?k1Qz ?k2Qz ?k3Qz ?k4Qz ?k5Qz ?_; (case k1Qz => k_asm); (case k2Qz => k_asm); (case k5Qz => k_upd); (case k3Qz => assumption); (case k4Qz => omega); k_whole); intro h' F' N' hs9; (try k_sweep))) | ((with_reducible show wpAny _ _ (call (Value.builtin "str.join") _) _ _ _); (k_here; (try dsimp only [List.cons_append, List.nil_append]); (with_reducible show wpAny _ _ (call (Value.builtin _) [Value.str _ _, Value.ref _]) _ _ _); k_dflt (refine' txt_join ?k1Qz ?k2Qz ?k3Qz ?k4Qz ?_; (case k1Qz => k_asm); (case k2Qz => k_mem); (case k3Qz => assumption); (case k4Qz => first | assumption | omega); k_whole); intro t9 k9)) | ((with_reducible show wpAny _ _ (call (Value.builtin "len") _) _ _ _); (k_here; (with_reducible show wpAny _ _ (call (Value.builtin _) [Value.ref _]) _ _ _); k_dflt (refine' txt_len ?k1Qz ?k2Qz ?k3Qz ?k4Qz ?_; (case k1Qz => k_asm); (case k2Qz => k_mem); (case k3Qz => assumption); (case k4Qz => omega); k_whole))) | ((with_reducible show wpAny _ _ (truthy (Value.ref _)) _ _ _); (k_here; k_dflt (refine' txt_truthy ?k1Qz ?k2Qz ?k3Qz ?k4Qz ?_; (case k1Qz => k_asm); (case k2Qz => k_mem); (case k3Qz => assumption); (case k4Qz => omega); k_whole))) | ((with_reducible show wpAny _ _ (subscriptTail _ _ (Value.ref _) (Value.int _ _)) _ _ _); (k_here; (with_reducible show wpAny _ _ (subscriptTail _ _ (Value.ref _) (Value.int (-1) _)) _ _ _); k_dflt (refine' txt_last ?k1Qz ?k2Qz ?k3Qz ?k4Qz ?_ ?k5Qz ?k6Qz; (case k1Qz => k_asm); (case k2Qz => k_mem); (case k3Qz => assumption); (case k4Qz => first | assumption | exact ne1 (by assumption) | exact ne2 (by assumption)); (case k5Qz => with_unfolding_all rfl); (case k6Qz => (intro _; with_unfolding_all rfl)); k_whole); intro t9)) | ((with_reducible show wpAny _ _ (binaryOp Operator.Add (Value.str _ _) (Value.str _ _)) _ _ _); ((with_reducible show wpAny _ _ (binaryOp Operator.Add (Value.str _ _) (Value.str _ _)) _ _ _); (refine SB.add (hsz := ?hszQz) ?_); (case hszQz => (rw [PySem.sizeLine_eq]; (try simp only [Str.length_append]); omega)); intro t9 k9)) | ((with_reducible show wpAny _ _ (call (Value.builtin "list.append") _) _ _ _); (k_here; (try dsimp only [List.cons_append, List.nil_append]); (with_reducible show wpAny _ _ (call (Value.builtin _) [Value.ref _, _]) _ _ _); k_dflt (refine' append_K ?k1Qz ?k2Qz ?k3Qz ?_ ?zQz; (case k1Qz => k_asm); (case k2Qz => k_asm); (case k3Qz => k_upd); (case zQz => size_fits); k_whole); intro h' F' N'; (try k_sweep))) | ((with_reducible show wpAny _ _ (exec (PySem.Stmt.For (PySem.Expr.Name _ _) (PySem.Expr.Subscript _ _ _) _ _ _) _) _ _ _); (k_here; (rename Fr _ _ _ _ => lF'); (with_unfolding_all refine' For_invVF lF' ?k1Qz ?k2Qz ?_; (case k1Qz => exact rfl); (case k2Qz => exact rfl); k_whole))) | ((with_reducible show wpAny _ _ (exec (PySem.Stmt.For (PySem.Expr.Name _ _) (PySem.Expr.Call _ _ _ _) _ _ _) _) _ _ _); (k_here; (rename Fr _ _ _ _ => lF'); (with_unfolding_all refine' For_invVF lF' ?k1Qz ?k2Qz ?_; (case k1Qz => exact rfl); (case k2Qz => exact rfl); k_whole))) | ((with_reducible show wpAny _ _ (exec (PySem.Stmt.For (PySem.Expr.Name _ _) (PySem.Expr.Name _ _) _ _ _) _) _ _ _); (k_here; (rename Fr _ _ _ _ => lF'); (with_unfolding_all refine' For_invVF lF' ?k1Qz ?k2Qz ?_; (case k1Qz => exact rfl); (case k2Qz => exact rfl); k_whole))) | ((with_reducible show wpAny _ _ (call (Value.ref 119) _) _ _ _); (k_here; k_dflt (refine' Tells.useS ?k1Qz ?k2Qz ?k3Qz ?k4Qz ?k5Qz ?k6Qz (fspath_ok _ _) ?k7Qz ?k8Qz ?k9Qz ?_; (case k1Qz => k_asm); (case k2Qz => k_asm); (case k3Qz => k_asm); (case k4Qz => k_asm); (case k5Qz => k_asm); (case k6Qz => first | exact rfl | assumption); (case k7Qz => ktr_room); (case k8Qz => ktr_units); (case k9Qz => first | exact Nat.zero_le _ | omega); k_whole; intro t9 h9 tk9 F9 N9 htk9))) | walk1) <;> (try dsimp only)))
        all_goals (
          have e9 : npBody x = srRoot x ++ Txt.join (Str.ofString "/") ys := by rw [npBody, ← hy']
          have hx9 : ¬ x.length = 0 := by omega
          rename News h₀ _ _ _ => N9
          refine hret _ [] _ _ (by k_asm) (news_drop N9 (fun p hp => .tail _ (.tail _ (.tail _ hp)))) (RStr.of ?_)
          rw [normP, if_neg hx9, e9])
        · rw [if_neg (by omega)]
        · rw [if_pos (by omega)]
    · exact hret _ [] _ _ (by k_asm) (by k_asm) ⟨_, by rw [normP, if_pos (by omega)], rfl⟩)
def rooted (x : Str) : Bool := Txt.slice x none (some 1) == Str.ofString "/"
def tFirst (xs : List Str) (i : Nat) : Nat := (List.range i).foldl (fun f k => if rooted (xs.getD k default) = true then k else f) 0
def tStep (acc part : Str) : Str := if (part != Str.ofString "") = true ∧ (Txt.item part (-1) != Str.ofString "/") = true then acc ++ part ++ Str.ofString "/" else acc ++ part
def tMid (xs : List Str) : List Str := (xs.drop (tFirst xs xs.length)).dropLast
def toldP (xs : List Str) : Str := (tMid xs).foldl tStep (Str.ofString "") ++ xs.getLastD default
theorem tFirst_succ (xs : List Str) (i : Nat) : tFirst xs (i + 1) = if rooted (xs.getD i default) = true then i else tFirst xs i := by
  unfold tFirst; rw [List.range_succ, List.foldl_append]; rfl
theorem tFirst_le (xs : List Str) : ∀ i, tFirst xs i ≤ i
  | 0 => Nat.le_refl _
  | i + 1 => by rw [tFirst_succ]; split; exact Nat.le_succ _; exact Nat.le_succ_of_le (tFirst_le xs i)
theorem tStep_len (a p : Str) : (tStep a p).length ≤ a.length + (p.length + 1) := by
  have h1 : (Str.ofString "/").length = 1 := by decide
  unfold tStep; split
  · rw [Str.length_append, Str.length_append, h1]; omega
  · rw [Str.length_append]; omega
theorem tFold_len (ps : List Str) : ∀ a, (ps.foldl tStep a).length ≤ a.length + ((ps.map (·.length)).sum + ps.length) := by
  induction ps with
  | nil => intro a; simp
  | cons p r ih =>
    intro a
    have h1 := ih (tStep a p)
    have h2 := tStep_len a p
    simp only [List.foldl_cons, List.map_cons, List.sum_cons, List.length_cons] at h1 ⊢
    omega
theorem sum_take (ps : List Str) (i : Nat) : ((ps.take i).map (·.length)).sum + (ps.take i).length ≤ (ps.map (·.length)).sum + ps.length := by
  have e : (ps.map (·.length)).sum + ps.length = (((ps.take i).map (·.length)).sum + (ps.take i).length) + (((ps.drop i).map (·.length)).sum + (ps.drop i).length) := by
    conv => lhs; rw [← List.take_append_drop i ps]
    rw [List.map_append, List.sum_append, List.length_append]; omega
  omega
theorem sum_drop (ps : List Str) (i : Nat) : ((ps.drop i).map (·.length)).sum + (ps.drop i).length ≤ (ps.map (·.length)).sum + ps.length := by
  have e : (ps.map (·.length)).sum + ps.length = (((ps.take i).map (·.length)).sum + (ps.take i).length) + (((ps.drop i).map (·.length)).sum + (ps.drop i).length) := by
    conv => lhs; rw [← List.take_append_drop i ps]
    rw [List.map_append, List.sum_append, List.length_append]; omega
  omega
theorem tMid_sum (xs : List Str) : ((tMid xs).map (·.length)).sum + (tMid xs).length ≤ (xs.map (·.length)).sum + xs.length := by
  unfold tMid
  rw [List.dropLast_eq_take]
  exact Nat.le_trans (sum_take _ _) (sum_drop _ _)
theorem tFold_take {ps : List Str} {i : Nat} {p : Str} (h : ps[i]? = some p) : (ps.take (i + 1)).foldl tStep S0 = tStep ((ps.take i).foldl tStep S0) p := by
  rw [List.take_add_one, h, List.foldl_append]; rfl
theorem told_ok {w : World} {mean : ExcName → Option Value} {mg mb : Str → Option Value} {news : List (Addr × Obj)} (l : Addr) (vs : List Value) (c : Nat) (xs : List Str) (hv : StrsAre vs xs) (hl : (l, W.listOf vs.toArray c) ∈ news) (hne : xs ≠ []) (hsz : (xs.map (·.length)).sum + xs.length ≤ 10000) :
    Tells w mean mg mb 0 2 24 180 news [.ref l] (RStr (toldP xs)) := by
  w_on
  w_strict (
    refine Tells.of ?_
    unfold Tells0
    k_fill
    intro dp un gd cn cs a ccd cl outer A₀ base h₀ L m s Q E B F X N T hk hd hu htk hret
    refine wpAny_call ?_
    k_dflt cell_enter
    have hn : xs.length ≤ 10000 := by omega
    repeat' ((fail_if_success (with_reducible show wpAny _ _ (pyIter _) _ _ _)); ((first | ((with_reducible show wpAny _ _ (subscriptTail _ _ (Value.ref _) (Value.int _ _)) _ _ _); (k_here; (with_reducible show wpAny _ _ (subscriptTail _ _ (Value.ref _) (Value.int (-1) _)) _ _ _); k_dflt (refine' txt_last ?k1Qz ?k2Qz ?k3Qz ?k4Qz ?_ ?k5Qz ?k6Qz; (case k1Qz => k_asm); (case k2Qz => k_mem); (case k3Qz => assumption); (case k4Qz => assumption); (case k5Qz => with_unfolding_all rfl); (case k6Qz => (intro _; with_unfolding_all rfl)); k_whole); intro t9)) | ((with_reducible show wpAny _ _ (subscriptTail _ _ (Value.ref _) (Value.int _ _)) _ _ _); (k_here; (with_reducible show wpAny _ _ (subscriptTail _ _ (Value.ref _) (Value.int (Nat.cast _) _)) _ _ _); k_dflt (refine' txt_itemN ?k1Qz ?k2Qz ?k3Qz ?k4Qz ?k5Qz ?_ ?k7Qz ?k8Qz; (case k1Qz => k_asm); (case k2Qz => k_mem); (case k3Qz => assumption); (case k4Qz => omega); (case k5Qz => omega); (case k7Qz => with_unfolding_all rfl); (case k8Qz => (intro _; with_unfolding_all rfl)); k_whole); intro t9)) | ((with_reducible show wpAny _ _ (call (Value.builtin "str.split") _) _ _ _); (k_here; (try dsimp only [List.cons_append, List.nil_append]); (with_reducible show wpAny _ _ (call (Value.builtin _) [Value.str _ _, Value.str _ _]) _ _ _); k_dflt (refine' txt_split ?k1Qz ?k2Qz ?k3Qz ?k4Qz ?_; (case k1Qz => k_asm); (case k2Qz => k_asm); (case k3Qz => rfl); (case k4Qz => omega); k_whole); intro D' h' ws k9 F' N' l1 hs9; (try k_lt l1); (try k_sweep))) | ((with_reducible show wpAny _ _ (subscriptTail _ (PySem.Expr.Slice _ _ _ _) (Value.ref _) (Value.ref _)) _ _ _); (k_here; (with_reducible show wpAny _ _ (subscriptTail _ (PySem.Expr.Slice _ _ none _) (Value.ref _) (Value.ref _)) _ _ _); k_dflt (refine' txt_slice (s := ⟨_, _, _, _, _⟩) ?FQz ?NQz ?mQz ?xQz ?zQz ?pQz ?qQz ?yQz ?_ ?sQz ?tQz; (case FQz => k_asm); (case NQz => k_asm); (case mQz => k_mem); (case xQz => assumption); (case zQz => omega); (case pQz => first | exact IsPart.none | exact IsPart.int _ _); (case qQz => first | exact IsPart.none | exact IsPart.int _ _); (case yQz => first | exact pick_upto1 (by assumption) | exact pick_run1 (by assumption) (by omega) | exact pick_from (by assumption) (by omega)); (case sQz => with_unfolding_all rfl); (case tQz => (intro _; with_unfolding_all rfl)); k_whole); intro D' h' ws F' N' l1 hs9; (try k_lt l1); (try k_sweep))) | ((with_reducible show wpAny _ _ (subscriptTail _ (PySem.Expr.Slice _ _ _ _) (Value.ref _) (Value.ref _)) _ _ _); (k_here; (with_reducible show wpAny _ _ (subscriptTail _ (PySem.Expr.Slice none none (some _) _) (Value.ref _) (Value.ref _)) _ _ _); k_dflt (refine' txt_rev (s := ⟨_, _, _, _, _⟩) ?FQz ?NQz ?mQz ?xQz ?zQz ?kQz ?_ ?sQz ?tQz; (case FQz => k_asm); (case NQz => k_asm); (case mQz => k_mem); (case xQz => assumption); (case zQz => omega); (case kQz => exact IsPart.int _ _); (case sQz => with_unfolding_all rfl); (case tQz => (intro _; with_unfolding_all rfl)); k_whole); intro D' h' ws F' N' l1 hs9; (try k_lt l1); (try k_sweep))) | ((with_reducible show wpAny _ _ (binaryOp Operator.Add (Value.ref _) (Value.ref _)) _ _ _); (k_here; (with_reducible show wpAny _ _ (binaryOp _ (Value.ref _) (Value.ref _)) _ _ _); k_dflt (refine' txt_add ?k1Qz ?k2Qz ?k3Qz ?k4Qz ?k5Qz ?k6Qz ?k7Qz ?_; (case k1Qz => k_asm); (case k2Qz => k_asm); (case k3Qz => k_mem); (case k4Qz => assumption); (case k5Qz => k_mem); (case k6Qz => assumption); (case k7Qz => omega); k_whole); intro D' h' F' N' l1 hs9; (try k_lt l1); (try k_sweep))) | ((with_reducible show wpAny _ _ (call (Value.builtin "list.insert") _) _ _ _); (k_here; (try dsimp only [List.cons_append, List.nil_append]); (with_reducible show wpAny _ _ (call (Value.builtin _) [Value.ref _, Value.int 0 _, Value.str _ _]) _ _ _); k_dflt (refine' txt_insert0 ?k1Qz ?k2Qz ?k3Qz ?k4Qz ?k5Qz ?_; (case k1Qz => k_asm); (case k2Qz => k_asm); (case k5Qz => k_upd); (case k3Qz => assumption); (case k4Qz => omega); k_whole); intro h' F' N' hs9; (try k_sweep))) | ((with_reducible show wpAny _ _ (call (Value.builtin "list.pop") _) _ _ _); (k_here; (try dsimp only [List.cons_append, List.nil_append]); (with_reducible show wpAny _ _ (call (Value.builtin _) [Value.ref _]) _ _ _); k_dflt (refine' txt_pop ?k1Qz ?k2Qz ?k3Qz ?k6Qz ?k4Qz ?k5Qz ?_; (case k1Qz => k_asm); (case k2Qz => k_asm); (case k5Qz => k_upd); (case k3Qz => assumption); (case k4Qz => omega); (case k6Qz => first | assumption | exact ne1 (by assumption) | exact ne2 (by assumption)); k_whole); intro h' t9 F' N' hs9; (try k_sweep))) | ((with_reducible show wpAny _ _ (call (Value.builtin "list.append") _) _ _ _); (k_here; (try dsimp only [List.cons_append, List.nil_append]); (with_reducible show wpAny _ _ (call (Value.builtin _) [Value.ref _, Value.str _ _]) _ _ _); k_dflt (refine' txt_append ?k1Qz ?k2Qz ?k3Qz ?k4Qz ?k5Qz ?_; (case k1Qz => k_asm); (case k2Qz => k_asm); (case k5Qz => k_upd); (case k3Qz => assumption); (case k4Qz => omega); k_whole); intro h' F' N' hs9; (try k_sweep))) | ((with_reducible show wpAny _ _ (call (Value.builtin "str.join") _) _ _ _); (k_here; (try dsimp only [List.cons_append, List.nil_append]); (with_reducible show wpAny _ _ (call (Value.builtin _) [Value.str _ _, Value.ref _]) _ _ _); k_dflt (refine' txt_join ?k1Qz ?k2Qz ?k3Qz ?k4Qz ?_; (case k1Qz => k_asm); (case k2Qz => k_mem); (case k3Qz => assumption); (case k4Qz => first | assumption | omega); k_whole); intro t9 k9)) | ((with_reducible show wpAny _ _ (call (Value.builtin "len") _) _ _ _); (k_here; (with_reducible show wpAny _ _ (call (Value.builtin _) [Value.ref _]) _ _ _); k_dflt (refine' txt_len ?k1Qz ?k2Qz ?k3Qz ?k4Qz ?_; (case k1Qz => k_asm); (case k2Qz => k_mem); (case k3Qz => assumption); (case k4Qz => omega); k_whole))) | ((with_reducible show wpAny _ _ (truthy (Value.ref _)) _ _ _); (k_here; k_dflt (refine' txt_truthy ?k1Qz ?k2Qz ?k3Qz ?k4Qz ?_; (case k1Qz => k_asm); (case k2Qz => k_mem); (case k3Qz => assumption); (case k4Qz => omega); k_whole))) | ((with_reducible show wpAny _ _ (subscriptTail _ _ (Value.ref _) (Value.int _ _)) _ _ _); (k_here; (with_reducible show wpAny _ _ (subscriptTail _ _ (Value.ref _) (Value.int (-1) _)) _ _ _); k_dflt (refine' txt_last ?k1Qz ?k2Qz ?k3Qz ?k4Qz ?_ ?k5Qz ?k6Qz; (case k1Qz => k_asm); (case k2Qz => k_mem); (case k3Qz => assumption); (case k4Qz => first | assumption | exact ne1 (by assumption) | exact ne2 (by assumption)); (case k5Qz => with_unfolding_all rfl); (case k6Qz => (intro _; with_unfolding_all rfl)); k_whole); intro t9)) | ((with_reducible show wpAny _ _ (binaryOp Operator.Add (Value.str _ _) (Value.str _ _)) _ _ _); ((with_reducible show wpAny _ _ (binaryOp Operator.Add (Value.str _ _) (Value.str _ _)) _ _ _); (refine SB.add (hsz := ?hszQz) ?_); (case hszQz => (rw [PySem.sizeLine_eq]; (try simp only [Str.length_append]); omega)); intro t9 k9)) | ((with_reducible show wpAny _ _ (call (Value.builtin "list.append") _) _ _ _); (k_here; (try dsimp only [List.cons_append, List.nil_append]); (with_reducible show wpAny _ _ (call (Value.builtin _) [Value.ref _, _]) _ _ _); k_dflt (refine' append_K ?k1Qz ?k2Qz ?k3Qz ?_ ?zQz; (case k1Qz => k_asm); (case k2Qz => k_asm); (case k3Qz => k_upd); (case zQz => size_fits); k_whole); intro h' F' N'; (try k_sweep))) | ((with_reducible show wpAny _ _ (exec (PySem.Stmt.For (PySem.Expr.Name _ _) (PySem.Expr.Subscript _ _ _) _ _ _) _) _ _ _); (k_here; (rename Fr _ _ _ _ => lF'); (with_unfolding_all refine' For_invVF lF' ?k1Qz ?k2Qz ?_; (case k1Qz => exact rfl); (case k2Qz => exact rfl); k_whole))) | ((with_reducible show wpAny _ _ (exec (PySem.Stmt.For (PySem.Expr.Name _ _) (PySem.Expr.Call _ _ _ _) _ _ _) _) _ _ _); (k_here; (rename Fr _ _ _ _ => lF'); (with_unfolding_all refine' For_invVF lF' ?k1Qz ?k2Qz ?_; (case k1Qz => exact rfl); (case k2Qz => exact rfl); k_whole))) | ((with_reducible show wpAny _ _ (exec (PySem.Stmt.For (PySem.Expr.Name _ _) (PySem.Expr.Name _ _) _ _ _) _) _ _ _); (k_here; (rename Fr _ _ _ _ => lF'); (with_unfolding_all refine' For_invVF lF' ?k1Qz ?k2Qz ?_; (case k1Qz => exact rfl); (case k2Qz => exact rfl); k_whole))) | walk1) <;> (try dsimp only)))
    · rename IsRange _ _ _ _ _ _ _ _ => hr
      rename News _ _ _ _ => N1
      rename Fr _ _ _ _ => F1
      refine iter_range (σ := Int × Tok) (fun st m z => if z = Str.ofString "first" then some (.int st.1 st.2) else m z) (fun _ => news) (fun i st => st.1 = (tFirst xs i : Int)) (0, _) (news.map (·.1)) rfl F1 N1 hr (by omega) (fun st => rfl) (upd1 rfl) (fun p hp => hp) rfl ?_ ?_
      · rintro i tk0 ⟨f, tf⟩ h tk own hi hf hoff F2 N2
        clear N1 F1
        have hi2 : i ≤ 10000 := by omega
        have hit : (xs.getD i default).length ≤ 10000 := by
          have := len_le_sum (getD_mem' (d := default) hi)
          omega
        dsimp only at F2 N2 hf ⊢
        (with_reducible show wpAny _ _ _ _ _ _)
        k_fold
        repeat' ((fail_if_success (with_reducible show wpAny _ _ (pyIter _) _ _ _)); ((first | ((with_reducible show wpAny _ _ (subscriptTail _ _ (Value.ref _) (Value.int _ _)) _ _ _); (k_here; (with_reducible show wpAny _ _ (subscriptTail _ _ (Value.ref _) (Value.int (-1) _)) _ _ _); k_dflt (refine' txt_last ?k1Qz ?k2Qz ?k3Qz ?k4Qz ?_ ?k5Qz ?k6Qz; (case k1Qz => k_asm); (case k2Qz => k_mem); (case k3Qz => assumption); (case k4Qz => assumption); (case k5Qz => with_unfolding_all rfl); (case k6Qz => (intro _; with_unfolding_all rfl)); k_whole); intro t9)) | ((with_reducible show wpAny _ _ (subscriptTail _ _ (Value.ref _) (Value.int _ _)) _ _ _); (k_here; (with_reducible show wpAny _ _ (subscriptTail _ _ (Value.ref _) (Value.int (Nat.cast _) _)) _ _ _); k_dflt (refine' txt_itemN ?k1Qz ?k2Qz ?k3Qz ?k4Qz ?k5Qz ?_ ?k7Qz ?k8Qz; (case k1Qz => k_asm); (case k2Qz => k_mem); (case k3Qz => assumption); (case k4Qz => omega); (case k5Qz => omega); (case k7Qz => with_unfolding_all rfl); (case k8Qz => (intro _; with_unfolding_all rfl)); k_whole); intro t9)) | ((with_reducible show wpAny _ _ (call (Value.builtin "str.split") _) _ _ _); (k_here; (try dsimp only [List.cons_append, List.nil_append]); (with_reducible show wpAny _ _ (call (Value.builtin _) [Value.str _ _, Value.str _ _]) _ _ _); k_dflt (refine' txt_split ?k1Qz ?k2Qz ?k3Qz ?k4Qz ?_; (case k1Qz => k_asm); (case k2Qz => k_asm); (case k3Qz => rfl); (case k4Qz => omega); k_whole); intro D' h' ws k9 F' N' l1 hs9; (try k_lt l1); (try k_sweep))) | ((with_reducible show wpAny _ _ (subscriptTail _ (PySem.Expr.Slice _ _ _ _) (Value.ref _) (Value.ref _)) _ _ _); (k_here; (with_reducible show wpAny _ _ (subscriptTail _ (PySem.Expr.Slice _ _ none _) (Value.ref _) (Value.ref _)) _ _ _); k_dflt (refine' txt_slice (s := ⟨_, _, _, _, _⟩) ?FQz ?NQz ?mQz ?xQz ?zQz ?pQz ?qQz ?yQz ?_ ?sQz ?tQz; (case FQz => k_asm); (case NQz => k_asm); (case mQz => k_mem); (case xQz => assumption); (case zQz => omega); (case pQz => first | exact IsPart.none | exact IsPart.int _ _); (case qQz => first | exact IsPart.none | exact IsPart.int _ _); (case yQz => first | exact pick_upto1 (by assumption) | exact pick_run1 (by assumption) (by omega) | exact pick_from (by assumption) (by omega)); (case sQz => with_unfolding_all rfl); (case tQz => (intro _; with_unfolding_all rfl)); k_whole); intro D' h' ws F' N' l1 hs9; (try k_lt l1); (try k_sweep))) | ((with_reducible show wpAny _ _ (subscriptTail _ (PySem.Expr.Slice _ _ _ _) (Value.ref _) (Value.ref _)) _ _ _); (k_here; (with_reducible show wpAny _ _ (subscriptTail _ (PySem.Expr.Slice none none (some _) _) (Value.ref _) (Value.ref _)) _ _ _); k_dflt (refine' txt_rev (s := ⟨_, _, _, _, _⟩) ?FQz ?NQz ?mQz ?xQz ?zQz ?kQz ?_ ?sQz ?tQz; (case FQz => k_asm); (case NQz => k_asm); (case mQz => k_mem); (case xQz => assumption); (case zQz => omega); (case kQz => exact IsPart.int _ _); (case sQz => with_unfolding_all rfl); (case tQz => (intro _; with_unfolding_all rfl)); k_whole); intro D' h' ws F' N' l1 hs9; (try k_lt l1); (try k_sweep))) | ((with_reducible show wpAny _ _ (binaryOp Operator.Add (Value.ref _) (Value.ref _)) _ _ _); (k_here; (with_reducible show wpAny _ _ (binaryOp _ (Value.ref _) (Value.ref _)) _ _ _); k_dflt (refine' txt_add ?k1Qz ?k2Qz ?k3Qz ?k4Qz ?k5Qz ?k6Qz ?k7Qz ?_; (case k1Qz => k_asm); (case k2Qz => k_asm); (case k3Qz => k_mem); (case k4Qz => assumption); (case k5Qz => k_mem); (case k6Qz => assumption); (case k7Qz => omega); k_whole); intro D' h' F' N' l1 hs9; (try k_lt l1); (try k_sweep))) | ((with_reducible show wpAny _ _ (call (Value.builtin "list.insert") _) _ _ _); (k_here; (try dsimp only [List.cons_append, List.nil_append]); (with_reducible show wpAny _ _ (call (Value.builtin _) [Value.ref _, Value.int 0 _, Value.str _ _]) _ _ _); k_dflt (refine' txt_insert0 ?k1Qz ?k2Qz ?k3Qz ?k4Qz ?k5Qz ?_; (case k1Qz => k_asm); (case k2Qz => k_asm); (case k5Qz => k_upd); (case k3Qz => assumption); (case k4Qz => omega); k_whole); intro h' F' N' hs9; (try k_sweep))) | ((with_reducible show wpAny _ _ (call (Value.builtin "list.pop") _) _ _ _); (k_here; (try dsimp only [List.cons_append, List.nil_append]); (with_reducible show wpAny _ _ (call (Value.builtin _) [Value.ref _]) _ _ _); k_dflt (refine' txt_pop ?k1Qz ?k2Qz ?k3Qz ?k6Qz ?k4Qz ?k5Qz ?_; (case k1Qz => k_asm); (case k2Qz => k_asm); (case k5Qz => k_upd); (case k3Qz => assumption); (case k4Qz => omega); (case k6Qz => first | assumption | exact ne1 (by assumption) | exact ne2 (by assumption)); k_whole); intro h' t9 F' N' hs9; (try k_sweep))) | ((with_reducible show wpAny _ _ (call (Value.builtin "list.append") _) _ _ _); (k_here; (try dsimp only [List.cons_append, List.nil_append]); (with_reducible show wpAny _ _ (call (Value.builtin _) [Value.ref _, Value.str _ _]) _ _ _); k_dflt (refine' txt_append ?k1Qz ?k2Qz ?k3Qz ?k4Qz ?k5Qz ?_; (case k1Qz => k_asm); (case k2Qz => k_asm); (case k5Qz => k_upd); (case k3Qz => assumption); (case k4Qz => omega); k_whole); intro h' F' N' hs9; (try k_sweep))) | ((with_reducible show wpAny _ _ (call (Value.builtin "str.join") _) _ _ _); (k_here; (try dsimp only [List.cons_append, List.nil_append]); (with_reducible show wpAny _ _ (call (Value.builtin _) [Value.str _ _, Value.ref _]) _ _ _); k_dflt (refine' txt_join ?k1Qz ?k2Qz ?k3Qz ?k4Qz ?_; (case k1Qz => k_asm); (case k2Qz => k_mem); (case k3Qz => assumption); (case k4Qz => first | assumption | omega); k_whole); intro t9 k9)) | ((with_reducible show wpAny _ _ (call (Value.builtin "len") _) _ _ _); (k_here; (with_reducible show wpAny _ _ (call (Value.builtin _) [Value.ref _]) _ _ _); k_dflt (refine' txt_len ?k1Qz ?k2Qz ?k3Qz ?k4Qz ?_; (case k1Qz => k_asm); (case k2Qz => k_mem); (case k3Qz => assumption); (case k4Qz => omega); k_whole))) | ((with_reducible show wpAny _ _ (truthy (Value.ref _)) _ _ _); (k_here; k_dflt (refine' txt_truthy ?k1Qz ?k2Qz ?k3Qz ?k4Qz ?_; (case k1Qz => k_asm); (case k2Qz => k_mem); (case k3Qz => assumption); (case k4Qz => omega); k_whole))) | ((with_reducible show wpAny _ _ (subscriptTail _ _ (Value.ref _) (Value.int _ _)) _ _ _); (k_here; (with_reducible show wpAny _ _ (subscriptTail _ _ (Value.ref _) (Value.int (-1) _)) _ _ _); k_dflt (refine' txt_last ?k1Qz ?k2Qz ?k3Qz ?k4Qz ?_ ?k5Qz ?k6Qz; (case k1Qz => k_asm); (case k2Qz => k_mem); (case k3Qz => assumption); (case k4Qz => first | assumption | exact ne1 (by assumption) | exact ne2 (by assumption)); (case k5Qz => with_unfolding_all rfl); (case k6Qz => (intro _; with_unfolding_all rfl)); k_whole); intro t9)) | ((with_reducible show wpAny _ _ (binaryOp Operator.Add (Value.str _ _) (Value.str _ _)) _ _ _); ((with_reducible show wpAny _ _ (binaryOp Operator.Add (Value.str _ _) (Value.str _ _)) _ _ _); (refine SB.add (hsz := ?hszQz) ?_); (case hszQz => (rw [PySem.sizeLine_eq]; (try simp only [Str.length_append]); omega)); intro t9 k9)) | ((with_reducible show wpAny _ _ (call (Value.builtin "list.append") _) _ _ _); (k_here; (try dsimp only [List.cons_append, List.nil_append]); (with_reducible show wpAny _ _ (call (Value.builtin _) [Value.ref _, _]) _ _ _); k_dflt (refine' append_K ?k1Qz ?k2Qz ?k3Qz ?_ ?zQz; (case k1Qz => k_asm); (case k2Qz => k_asm); (case k3Qz => k_upd); (case zQz => size_fits); k_whole); intro h' F' N'; (try k_sweep))) | ((with_reducible show wpAny _ _ (exec (PySem.Stmt.For (PySem.Expr.Name _ _) (PySem.Expr.Subscript _ _ _) _ _ _) _) _ _ _); (k_here; (rename Fr _ _ _ _ => lF'); (with_unfolding_all refine' For_invVF lF' ?k1Qz ?k2Qz ?_; (case k1Qz => exact rfl); (case k2Qz => exact rfl); k_whole))) | ((with_reducible show wpAny _ _ (exec (PySem.Stmt.For (PySem.Expr.Name _ _) (PySem.Expr.Call _ _ _ _) _ _ _) _) _ _ _); (k_here; (rename Fr _ _ _ _ => lF'); (with_unfolding_all refine' For_invVF lF' ?k1Qz ?k2Qz ?_; (case k1Qz => exact rfl); (case k2Qz => exact rfl); k_whole))) | ((with_reducible show wpAny _ _ (exec (PySem.Stmt.For (PySem.Expr.Name _ _) (PySem.Expr.Name _ _) _ _ _) _) _ _ _); (k_here; (rename Fr _ _ _ _ => lF'); (with_unfolding_all refine' For_invVF lF' ?k1Qz ?k2Qz ?_; (case k1Qz => exact rfl); (case k2Qz => exact rfl); k_whole))) | walk1) <;> (try dsimp only)))
        all_goals (k_unfold; dsimp only [StPost]; rename Fr _ _ _ _ => F9; rename News _ _ _ _ => N9)
        · refine StEnd.intro ((i : Int), tk0) F9 N9 (fun p hp => List.mem_append_left _ hp) (fun p hp => List.mem_append_right _ hp) (feq1 rfl (fun z hx ha => by simp only [if_neg hx, if_neg ha])) (by rw [tFirst_succ, if_pos (by assumption)])
        · refine StEnd.intro (f, tf) F9 N9 (fun p hp => List.mem_append_left _ hp) (fun p hp => List.mem_append_right _ hp) (fun z hz => if_neg hz) (by rw [tFirst_succ, if_neg (ne_true_of_eq_false (by assumption))]; exact hf)
      · rintro u ⟨f, tf⟩ h tk hf F2 N2
        clear N1 F1
        dsimp only at hf F2 N2 ⊢
        subst hf
        repeat' ((fail_if_success (with_reducible show wpAny _ _ (pyIter _) _ _ _)); ((first | ((with_reducible show wpAny _ _ (subscriptTail _ _ (Value.ref _) (Value.int _ _)) _ _ _); (k_here; (with_reducible show wpAny _ _ (subscriptTail _ _ (Value.ref _) (Value.int (-1) _)) _ _ _); k_dflt (refine' txt_last ?k1Qz ?k2Qz ?k3Qz ?k4Qz ?_ ?k5Qz ?k6Qz; (case k1Qz => k_asm); (case k2Qz => k_mem); (case k3Qz => assumption); (case k4Qz => assumption); (case k5Qz => with_unfolding_all rfl); (case k6Qz => (intro _; with_unfolding_all rfl)); k_whole); intro t9)) | ((with_reducible show wpAny _ _ (subscriptTail _ _ (Value.ref _) (Value.int _ _)) _ _ _); (k_here; (with_reducible show wpAny _ _ (subscriptTail _ _ (Value.ref _) (Value.int (Nat.cast _) _)) _ _ _); k_dflt (refine' txt_itemN ?k1Qz ?k2Qz ?k3Qz ?k4Qz ?k5Qz ?_ ?k7Qz ?k8Qz; (case k1Qz => k_asm); (case k2Qz => k_mem); (case k3Qz => assumption); (case k4Qz => omega); (case k5Qz => omega); (case k7Qz => with_unfolding_all rfl); (case k8Qz => (intro _; with_unfolding_all rfl)); k_whole); intro t9)) | ((with_reducible show wpAny _ _ (call (Value.builtin "str.split") _) _ _ _); (k_here; (try dsimp only [List.cons_append, List.nil_append]); (with_reducible show wpAny _ _ (call (Value.builtin _) [Value.str _ _, Value.str _ _]) _ _ _); k_dflt (refine' txt_split ?k1Qz ?k2Qz ?k3Qz ?k4Qz ?_; (case k1Qz => k_asm); (case k2Qz => k_asm); (case k3Qz => rfl); (case k4Qz => omega); k_whole); intro D' h' ws k9 F' N' l1 hs9; (try k_lt l1); (try k_sweep))) | ((with_reducible show wpAny _ _ (subscriptTail _ (PySem.Expr.Slice _ _ _ _) (Value.ref _) (Value.ref _)) _ _ _); (k_here; (with_reducible show wpAny _ _ (subscriptTail _ (PySem.Expr.Slice _ _ none _) (Value.ref _) (Value.ref _)) _ _ _); k_dflt (refine' txt_slice (s := ⟨_, _, _, _, _⟩) ?FQz ?NQz ?mQz ?xQz ?zQz ?pQz ?qQz ?yQz ?_ ?sQz ?tQz; (case FQz => k_asm); (case NQz => k_asm); (case mQz => k_mem); (case xQz => assumption); (case zQz => omega); (case pQz => first | exact IsPart.none | exact IsPart.int _ _); (case qQz => first | exact IsPart.none | exact IsPart.int _ _); (case yQz => first | exact pick_upto1 (by assumption) | exact pick_run1 (by assumption) (by omega) | exact pick_from (by assumption) (by omega)); (case sQz => with_unfolding_all rfl); (case tQz => (intro _; with_unfolding_all rfl)); k_whole); intro D' h' ws F' N' l1 hs9; (try k_lt l1); (try k_sweep))) | ((with_reducible show wpAny _ _ (subscriptTail _ (PySem.Expr.Slice _ _ _ _) (Value.ref _) (Value.ref _)) _ _ _); (k_here; (with_reducible show wpAny _ _ (subscriptTail _ (PySem.Expr.Slice none none (some _) _) (Value.ref _) (Value.ref _)) _ _ _); k_dflt (refine' txt_rev (s := ⟨_, _, _, _, _⟩) ?FQz ?NQz ?mQz ?xQz ?zQz ?kQz ?_ ?sQz ?tQz; (case FQz => k_asm); (case NQz => k_asm); (case mQz => k_mem); (case xQz => assumption); (case zQz => omega); (case kQz => exact IsPart.int _ _); (case sQz => with_unfolding_all rfl); (case tQz => (intro _; with_unfolding_all rfl)); k_whole); intro D' h' ws F' N' l1 hs9; (try k_lt l1); (try k_sweep))) | ((with_reducible show wpAny _ _ (binaryOp Operator.Add (Value.ref _) (Value.ref _)) _ _ _); (k_here; (with_reducible show wpAny _ _ (binaryOp _ (Value.ref _) (Value.ref _)) _ _ _); k_dflt (refine' txt_add ?k1Qz ?k2Qz ?k3Qz ?k4Qz ?k5Qz ?k6Qz ?k7Qz ?_; (case k1Qz => k_asm); (case k2Qz => k_asm); (case k3Qz => k_mem); (case k4Qz => assumption); (case k5Qz => k_mem); (case k6Qz => assumption); (case k7Qz => omega); k_whole); intro D' h' F' N' l1 hs9; (try k_lt l1); (try k_sweep))) | ((with_reducible show wpAny _ _ (call (Value.builtin "list.insert") _) _ _ _); (k_here; (try dsimp only [List.cons_append, List.nil_append]); (with_reducible show wpAny _ _ (call (Value.builtin _) [Value.ref _, Value.int 0 _, Value.str _ _]) _ _ _); k_dflt (refine' txt_insert0 ?k1Qz ?k2Qz ?k3Qz ?k4Qz ?k5Qz ?_; (case k1Qz => k_asm); (case k2Qz => k_asm); (case k5Qz => k_upd); (case k3Qz => assumption); (case k4Qz => omega); k_whole); intro h' F' N' hs9; (try k_sweep))) | ((with_reducible show wpAny _ _ (call (Value.builtin "list.pop") _) _ _ _); (k_here; (try dsimp only [List.cons_append, List.nil_append]); (with_reducible show wpAny _ _ (call (Value.builtin _) [Value.ref _]) _ _ _); k_dflt (refine' txt_pop ?k1Qz ?k2Qz ?k3Qz ?k6Qz ?k4Qz ?k5Qz ?_; (case k1Qz => k_asm); (case k2Qz => k_asm); (case k5Qz => k_upd); (case k3Qz => assumption); (case k4Qz => omega); (case k6Qz => first | assumption | exact ne1 (by assumption) | exact ne2 (by assumption)); k_whole); intro h' t9 F' N' hs9; (try k_sweep))) | ((with_reducible show wpAny _ _ (call (Value.builtin "list.append") _) _ _ _); (k_here; (try dsimp only [List.cons_append, List.nil_append]); (with_reducible show wpAny _ _ (call (Value.builtin _) [Value.ref _, Value.str _ _]) _ _ _); k_dflt (refine' txt_append ?k1Qz ?k2Qz ?k3Qz ?k4Qz ?k5Qz ?_; (case k1Qz => k_asm); (case k2Qz => k_asm); (case k5Qz => k_upd); (case k3Qz => assumption); (case k4Qz => omega); k_whole); intro h' F' N' hs9; (try k_sweep))) | ((with_reducible show wpAny _ _ (call (Value.builtin "str.join") _) _ _ _); (k_here; (try dsimp only [List.cons_append, List.nil_append]); (with_reducible show wpAny _ _ (call (Value.builtin _) [Value.str _ _, Value.ref _]) _ _ _); k_dflt (refine' txt_join ?k1Qz ?k2Qz ?k3Qz ?k4Qz ?_; (case k1Qz => k_asm); (case k2Qz => k_mem); (case k3Qz => assumption); (case k4Qz => first | assumption | omega); k_whole); intro t9 k9)) | ((with_reducible show wpAny _ _ (call (Value.builtin "len") _) _ _ _); (k_here; (with_reducible show wpAny _ _ (call (Value.builtin _) [Value.ref _]) _ _ _); k_dflt (refine' txt_len ?k1Qz ?k2Qz ?k3Qz ?k4Qz ?_; (case k1Qz => k_asm); (case k2Qz => k_mem); (case k3Qz => assumption); (case k4Qz => omega); k_whole))) | ((with_reducible show wpAny _ _ (truthy (Value.ref _)) _ _ _); (k_here; k_dflt (refine' txt_truthy ?k1Qz ?k2Qz ?k3Qz ?k4Qz ?_; (case k1Qz => k_asm); (case k2Qz => k_mem); (case k3Qz => assumption); (case k4Qz => omega); k_whole))) | ((with_reducible show wpAny _ _ (subscriptTail _ _ (Value.ref _) (Value.int _ _)) _ _ _); (k_here; (with_reducible show wpAny _ _ (subscriptTail _ _ (Value.ref _) (Value.int (-1) _)) _ _ _); k_dflt (refine' txt_last ?k1Qz ?k2Qz ?k3Qz ?k4Qz ?_ ?k5Qz ?k6Qz; (case k1Qz => k_asm); (case k2Qz => k_mem); (case k3Qz => assumption); (case k4Qz => first | assumption | exact ne1 (by assumption) | exact ne2 (by assumption)); (case k5Qz => with_unfolding_all rfl); (case k6Qz => (intro _; with_unfolding_all rfl)); k_whole); intro t9)) | ((with_reducible show wpAny _ _ (binaryOp Operator.Add (Value.str _ _) (Value.str _ _)) _ _ _); ((with_reducible show wpAny _ _ (binaryOp Operator.Add (Value.str _ _) (Value.str _ _)) _ _ _); (refine SB.add (hsz := ?hszQz) ?_); (case hszQz => (rw [PySem.sizeLine_eq]; (try simp only [Str.length_append]); omega)); intro t9 k9)) | ((with_reducible show wpAny _ _ (call (Value.builtin "list.append") _) _ _ _); (k_here; (try dsimp only [List.cons_append, List.nil_append]); (with_reducible show wpAny _ _ (call (Value.builtin _) [Value.ref _, _]) _ _ _); k_dflt (refine' append_K ?k1Qz ?k2Qz ?k3Qz ?_ ?zQz; (case k1Qz => k_asm); (case k2Qz => k_asm); (case k3Qz => k_upd); (case zQz => size_fits); k_whole); intro h' F' N'; (try k_sweep))) | ((with_reducible show wpAny _ _ (exec (PySem.Stmt.For (PySem.Expr.Name _ _) (PySem.Expr.Subscript _ _ _) _ _ _) _) _ _ _); (k_here; (rename Fr _ _ _ _ => lF'); (with_unfolding_all refine' For_invVF lF' ?k1Qz ?k2Qz ?_; (case k1Qz => exact rfl); (case k2Qz => exact rfl); k_whole))) | ((with_reducible show wpAny _ _ (exec (PySem.Stmt.For (PySem.Expr.Name _ _) (PySem.Expr.Call _ _ _ _) _ _ _) _) _ _ _); (k_here; (rename Fr _ _ _ _ => lF'); (with_unfolding_all refine' For_invVF lF' ?k1Qz ?k2Qz ?_; (case k1Qz => exact rfl); (case k2Qz => exact rfl); k_whole))) | ((with_reducible show wpAny _ _ (exec (PySem.Stmt.For (PySem.Expr.Name _ _) (PySem.Expr.Name _ _) _ _ _) _) _ _ _); (k_here; (rename Fr _ _ _ _ => lF'); (with_unfolding_all refine' For_invVF lF' ?k1Qz ?k2Qz ?_; (case k1Qz => exact rfl); (case k2Qz => exact rfl); k_whole))) | walk1) <;> (try dsimp only)))
        rename News _ _ _ _ => N1
        rename Fr _ _ _ _ => F1
        rename StrsAre _ (List.dropLast _) => hws
        simp only [Int.toNat_natCast] at hws
        replace hws : StrsAre _ (tMid xs) := hws
        have hms := tMid_sum xs
        refine iter_list (σ := Str × Tok) (fun st m z => if z = Str.ofString "told" then some (.str st.1 st.2) else m z) (fun _ => news) (fun i st => st.1 = ((tMid xs).take i).foldl tStep S0) (S0, _) (news.map (·.1)) rfl F1 N1 (.head _) (fun st => rfl) (upd1 rfl) (fun p hp => .tail _ hp) rfl ?_ ?_
        · rintro i v ⟨y, ty⟩ h tk own hv' hy hoff F2 N2
          clear N1 F1
          obtain ⟨p, tp, rfl, hpi, hpm⟩ := strs_get hws hv'
          have hyl := tFold_len ((tMid xs).take i) S0
          have hyt := sum_take (tMid xs) i
          have hpl := len_le_sum hpm
          have hs0 : S0.length = 0 := by decide
          dsimp only at F2 N2 hy ⊢
          rw [← hy, hs0] at hyl
          have h1 : (Str.ofString "/").length = 1 := by decide
          (with_reducible show wpAny _ _ _ _ _ _)
          k_fold
          repeat' ((fail_if_success (with_reducible show wpAny _ _ (pyIter _) _ _ _)); ((first | ((with_reducible show wpAny _ _ (subscriptTail _ _ (Value.ref _) (Value.int _ _)) _ _ _); (k_here; (with_reducible show wpAny _ _ (subscriptTail _ _ (Value.ref _) (Value.int (-1) _)) _ _ _); k_dflt (refine' txt_last ?k1Qz ?k2Qz ?k3Qz ?k4Qz ?_ ?k5Qz ?k6Qz; (case k1Qz => k_asm); (case k2Qz => k_mem); (case k3Qz => assumption); (case k4Qz => assumption); (case k5Qz => with_unfolding_all rfl); (case k6Qz => (intro _; with_unfolding_all rfl)); k_whole); intro t9)) | ((with_reducible show wpAny _ _ (subscriptTail _ _ (Value.ref _) (Value.int _ _)) _ _ _); (k_here; (with_reducible show wpAny _ _ (subscriptTail _ _ (Value.ref _) (Value.int (Nat.cast _) _)) _ _ _); k_dflt (refine' txt_itemN ?k1Qz ?k2Qz ?k3Qz ?k4Qz ?k5Qz ?_ ?k7Qz ?k8Qz; (case k1Qz => k_asm); (case k2Qz => k_mem); (case k3Qz => assumption); (case k4Qz => omega); (case k5Qz => omega); (case k7Qz => with_unfolding_all rfl); (case k8Qz => (intro _; with_unfolding_all rfl)); k_whole); intro t9)) | ((with_reducible show wpAny _ _ (call (Value.builtin "str.split") _) _ _ _); (k_here; (try dsimp only [List.cons_append, List.nil_append]); (with_reducible show wpAny _ _ (call (Value.builtin _) [Value.str _ _, Value.str _ _]) _ _ _); k_dflt (refine' txt_split ?k1Qz ?k2Qz ?k3Qz ?k4Qz ?_; (case k1Qz => k_asm); (case k2Qz => k_asm); (case k3Qz => rfl); (case k4Qz => omega); k_whole); intro D' h' ws k9 F' N' l1 hs9; (try k_lt l1); (try k_sweep))) | ((with_reducible show wpAny _ _ (subscriptTail _ (PySem.Expr.Slice _ _ _ _) (Value.ref _) (Value.ref _)) _ _ _); (k_here; (with_reducible show wpAny _ _ (subscriptTail _ (PySem.Expr.Slice _ _ none _) (Value.ref _) (Value.ref _)) _ _ _); k_dflt (refine' txt_slice (s := ⟨_, _, _, _, _⟩) ?FQz ?NQz ?mQz ?xQz ?zQz ?pQz ?qQz ?yQz ?_ ?sQz ?tQz; (case FQz => k_asm); (case NQz => k_asm); (case mQz => k_mem); (case xQz => assumption); (case zQz => omega); (case pQz => first | exact IsPart.none | exact IsPart.int _ _); (case qQz => first | exact IsPart.none | exact IsPart.int _ _); (case yQz => first | exact pick_upto1 (by assumption) | exact pick_run1 (by assumption) (by omega) | exact pick_from (by assumption) (by omega)); (case sQz => with_unfolding_all rfl); (case tQz => (intro _; with_unfolding_all rfl)); k_whole); intro D' h' ws F' N' l1 hs9; (try k_lt l1); (try k_sweep))) | ((with_reducible show wpAny _ _ (subscriptTail _ (PySem.Expr.Slice _ _ _ _) (Value.ref _) (Value.ref _)) _ _ _); (k_here; (with_reducible show wpAny _ _ (subscriptTail _ (PySem.Expr.Slice none none (some _) _) (Value.ref _) (Value.ref _)) _ _ _); k_dflt (refine' txt_rev (s := ⟨_, _, _, _, _⟩) ?FQz ?NQz ?mQz ?xQz ?zQz ?kQz ?_ ?sQz ?tQz; (case FQz => k_asm); (case NQz => k_asm); (case mQz => k_mem); (case xQz => assumption); (case zQz => omega); (case kQz => exact IsPart.int _ _); (case sQz => with_unfolding_all rfl); (case tQz => (intro _; with_unfolding_all rfl)); k_whole); intro D' h' ws F' N' l1 hs9; (try k_lt l1); (try k_sweep))) | ((with_reducible show wpAny _ _ (binaryOp Operator.Add (Value.ref _) (Value.ref _)) _ _ _); (k_here; (with_reducible show wpAny _ _ (binaryOp _ (Value.ref _) (Value.ref _)) _ _ _); k_dflt (refine' txt_add ?k1Qz ?k2Qz ?k3Qz ?k4Qz ?k5Qz ?k6Qz ?k7Qz ?_; (case k1Qz => k_asm); (case k2Qz => k_asm); (case k3Qz => k_mem); (case k4Qz => assumption); (case k5Qz => k_mem); (case k6Qz => assumption); (case k7Qz => omega); k_whole); intro D' h' F' N' l1 hs9; (try k_lt l1); (try k_sweep))) | ((with_reducible show wpAny _ _ (call (Value.builtin "list.insert") _) _ _ _); (k_here; (try dsimp only [List.cons_append, List.nil_append]); (with_reducible show wpAny _ _ (call (Value.builtin _) [Value.ref _, Value.int 0 _, Value.str _ _]) _ _ _); k_dflt (refine' txt_insert0 ?k1Qz ?k2Qz ?k3Qz ?k4Qz ?k5Qz ?_; (case k1Qz => k_asm); (case k2Qz => k_asm); (case k5Qz => k_upd); (case k3Qz => assumption); (case k4Qz => omega); k_whole); intro h' F' N' hs9; (try k_sweep))) | ((with_reducible show wpAny _ _ (call (Value.builtin "list.pop") _) _ _ _); (k_here; (try dsimp only [List.cons_append, List.nil_append]); (with_reducible show wpAny _ _ (call (Value.builtin _) [Value.ref _]) _ _ _); k_dflt (refine' txt_pop ?k1Qz ?k2Qz ?k3Qz ?k6Qz ?k4Qz ?k5Qz ?_; (case k1Qz => k_asm); (case k2Qz => k_asm); (case k5Qz => k_upd); (case k3Qz => assumption); (case k4Qz => omega); (case k6Qz => first | assumption | exact ne1 (by assumption) | exact ne2 (by assumption)); k_whole); intro h' t9 F' N' hs9; (try k_sweep))) | ((with_reducible show wpAny _ _ (call (Value.builtin "list.append") _) _ _ _); (k_here; (try dsimp only [List.cons_append, List.nil_append]); (with_reducible show wpAny _ _ (call (Value.builtin _) [Value.ref _, Value.str _ _]) _ _ _); k_dflt (refine' txt_append ?k1Qz ?k2Qz ?k3Qz ?k4Qz ?k5Qz ?_; (case k1Qz => k_asm); (case k2Qz => k_asm); (case k5Qz => k_upd); (case k3Qz => assumption); (case k4Qz => omega); k_whole); intro h' F' N' hs9; (try k_sweep))) | ((with_reducible show wpAny _ _ (call (Value.builtin "str.join") _) _ _ _); (k_here; (try dsimp only [List.cons_append, List.nil_append]); (with_reducible show wpAny _ _ (call (Value.builtin _) [Value.str _ _, Value.ref _]) _ _ _); k_dflt (refine' txt_join ?k1Qz ?k2Qz ?k3Qz ?k4Qz ?_; (case k1Qz => k_asm); (case k2Qz => k_mem); (case k3Qz => assumption); (case k4Qz => first | assumption | omega); k_whole); intro t9 k9)) | ((with_reducible show wpAny _ _ (call (Value.builtin "len") _) _ _ _); (k_here; (with_reducible show wpAny _ _ (call (Value.builtin _) [Value.ref _]) _ _ _); k_dflt (refine' txt_len ?k1Qz ?k2Qz ?k3Qz ?k4Qz ?_; (case k1Qz => k_asm); (case k2Qz => k_mem); (case k3Qz => assumption); (case k4Qz => omega); k_whole))) | ((with_reducible show wpAny _ _ (truthy (Value.ref _)) _ _ _); (k_here; k_dflt (refine' txt_truthy ?k1Qz ?k2Qz ?k3Qz ?k4Qz ?_; (case k1Qz => k_asm); (case k2Qz => k_mem); (case k3Qz => assumption); (case k4Qz => omega); k_whole))) | ((with_reducible show wpAny _ _ (subscriptTail _ _ (Value.ref _) (Value.int _ _)) _ _ _); (k_here; (with_reducible show wpAny _ _ (subscriptTail _ _ (Value.ref _) (Value.int (-1) _)) _ _ _); k_dflt (refine' txt_last ?k1Qz ?k2Qz ?k3Qz ?k4Qz ?_ ?k5Qz ?k6Qz; (case k1Qz => k_asm); (case k2Qz => k_mem); (case k3Qz => assumption); (case k4Qz => first | assumption | exact ne1 (by assumption) | exact ne2 (by assumption)); (case k5Qz => with_unfolding_all rfl); (case k6Qz => (intro _; with_unfolding_all rfl)); k_whole); intro t9)) | ((with_reducible show wpAny _ _ (binaryOp Operator.Add (Value.str _ _) (Value.str _ _)) _ _ _); ((with_reducible show wpAny _ _ (binaryOp Operator.Add (Value.str _ _) (Value.str _ _)) _ _ _); (refine SB.add (hsz := ?hszQz) ?_); (case hszQz => (rw [PySem.sizeLine_eq]; (try simp only [Str.length_append]); omega)); intro t9 k9)) | ((with_reducible show wpAny _ _ (call (Value.builtin "list.append") _) _ _ _); (k_here; (try dsimp only [List.cons_append, List.nil_append]); (with_reducible show wpAny _ _ (call (Value.builtin _) [Value.ref _, _]) _ _ _); k_dflt (refine' append_K ?k1Qz ?k2Qz ?k3Qz ?_ ?zQz; (case k1Qz => k_asm); (case k2Qz => k_asm); (case k3Qz => k_upd); (case zQz => size_fits); k_whole); intro h' F' N'; (try k_sweep))) | ((with_reducible show wpAny _ _ (exec (PySem.Stmt.For (PySem.Expr.Name _ _) (PySem.Expr.Subscript _ _ _) _ _ _) _) _ _ _); (k_here; (rename Fr _ _ _ _ => lF'); (with_unfolding_all refine' For_invVF lF' ?k1Qz ?k2Qz ?_; (case k1Qz => exact rfl); (case k2Qz => exact rfl); k_whole))) | ((with_reducible show wpAny _ _ (exec (PySem.Stmt.For (PySem.Expr.Name _ _) (PySem.Expr.Call _ _ _ _) _ _ _) _) _ _ _); (k_here; (rename Fr _ _ _ _ => lF'); (with_unfolding_all refine' For_invVF lF' ?k1Qz ?k2Qz ?_; (case k1Qz => exact rfl); (case k2Qz => exact rfl); k_whole))) | ((with_reducible show wpAny _ _ (exec (PySem.Stmt.For (PySem.Expr.Name _ _) (PySem.Expr.Name _ _) _ _ _) _) _ _ _); (k_here; (rename Fr _ _ _ _ => lF'); (with_unfolding_all refine' For_invVF lF' ?k1Qz ?k2Qz ?_; (case k1Qz => exact rfl); (case k2Qz => exact rfl); k_whole))) | walk1) <;> (try dsimp only)))
          all_goals (k_unfold; dsimp only [StPost]; rename Fr _ _ _ _ => F9; rename News _ _ _ _ => N9)
          · refine StEnd.intro (y ++ p ++ Str.ofString "/", _) F9 N9 (fun p hp => List.mem_append_left _ hp) (fun p hp => List.mem_append_right _ hp) (feq1 rfl (fun z hx ha => by simp only [if_neg hx, if_neg ha])) (by rw [tFold_take hpi, ← hy, tStep, if_pos ⟨by assumption, by assumption⟩])
          · refine StEnd.intro (y ++ p, _) F9 N9 (fun p hp => List.mem_append_left _ hp) (fun p hp => List.mem_append_right _ hp) (feq1 rfl (fun z hx ha => by simp only [if_neg hx, if_neg ha])) (by rw [tFold_take hpi, ← hy, tStep, if_neg (fun hc => absurd hc.2 (ne_true_of_eq_false (by assumption)))])
          · refine StEnd.intro (y ++ p, _) F9 N9 (fun p hp => List.mem_append_left _ hp) (fun p hp => List.mem_append_right _ hp) (feq1 rfl (fun z hx ha => by simp only [if_neg hx, if_neg ha])) (by rw [tFold_take hpi, ← hy, tStep, if_neg (fun hc => absurd hc.1 (ne_true_of_eq_false (by assumption)))])
        · rintro u2 ⟨y, ty⟩ h tk hy F2 N2
          clear N1 F1
          dsimp only at hy F2 N2 ⊢
          rw [List.take_of_length_le (by rw [List.size_toArray, hws.len_eq]; exact Nat.le_refl _)] at hy
          have hyl := tFold_len (tMid xs) S0
          have hs0 : S0.length = 0 := by decide
          rw [← hy, hs0] at hyl
          have hlast := len_le_sum (getLastD_mem' (d := default) hne)
          repeat' ((fail_if_success (with_reducible show wpAny _ _ (pyIter _) _ _ _)); ((first | ((with_reducible show wpAny _ _ (subscriptTail _ _ (Value.ref _) (Value.int _ _)) _ _ _); (k_here; (with_reducible show wpAny _ _ (subscriptTail _ _ (Value.ref _) (Value.int (-1) _)) _ _ _); k_dflt (refine' txt_last ?k1Qz ?k2Qz ?k3Qz ?k4Qz ?_ ?k5Qz ?k6Qz; (case k1Qz => k_asm); (case k2Qz => k_mem); (case k3Qz => assumption); (case k4Qz => assumption); (case k5Qz => with_unfolding_all rfl); (case k6Qz => (intro _; with_unfolding_all rfl)); k_whole); intro t9)) | ((with_reducible show wpAny _ _ (subscriptTail _ _ (Value.ref _) (Value.int _ _)) _ _ _); (k_here; (with_reducible show wpAny _ _ (subscriptTail _ _ (Value.ref _) (Value.int (Nat.cast _) _)) _ _ _); k_dflt (refine' txt_itemN ?k1Qz ?k2Qz ?k3Qz ?k4Qz ?k5Qz ?_ ?k7Qz ?k8Qz; (case k1Qz => k_asm); (case k2Qz => k_mem); (case k3Qz => assumption); (case k4Qz => omega); (case k5Qz => omega); (case k7Qz => with_unfolding_all rfl); (case k8Qz => (intro _; with_unfolding_all rfl)); k_whole); intro t9)) | ((with_reducible show wpAny _ _ (call (Value.builtin "str.split") _) _ _ _); (k_here; (try dsimp only [List.cons_append, List.nil_append]); (with_reducible show wpAny _ _ (call (Value.builtin _) [Value.str _ _, Value.str _ _]) _ _ _); k_dflt (refine' txt_split ?k1Qz ?k2Qz ?k3Qz ?k4Qz ?_; (case k1Qz => k_asm); (case k2Qz => k_asm); (case k3Qz => rfl); (case k4Qz => omega); k_whole); intro D' h' ws k9 F' N' l1 hs9; (try k_lt l1); (try k_sweep))) | ((with_reducible show wpAny _ _ (subscriptTail _ (PySem.Expr.Slice _ _ _ _) (Value.ref _) (Value.ref _)) _ _ _); (k_here; (with_reducible show wpAny _ _ (subscriptTail _ (PySem.Expr.Slice _ _ none _) (Value.ref _) (Value.ref _)) _ _ _); k_dflt (refine' txt_slice (s := ⟨_, _, _, _, _⟩) ?FQz ?NQz ?mQz ?xQz ?zQz ?pQz ?qQz ?yQz ?_ ?sQz ?tQz; (case FQz => k_asm); (case NQz => k_asm); (case mQz => k_mem); (case xQz => assumption); (case zQz => omega); (case pQz => first | exact IsPart.none | exact IsPart.int _ _); (case qQz => first | exact IsPart.none | exact IsPart.int _ _); (case yQz => first | exact pick_upto1 (by assumption) | exact pick_run1 (by assumption) (by omega) | exact pick_from (by assumption) (by omega)); (case sQz => with_unfolding_all rfl); (case tQz => (intro _; with_unfolding_all rfl)); k_whole); intro D' h' ws F' N' l1 hs9; (try k_lt l1); (try k_sweep))) | ((with_reducible show wpAny _ _ (subscriptTail _ (PySem.Expr.Slice _ _ _ _) (Value.ref _) (Value.ref _)) _ _ _); (k_here; (with_reducible show wpAny _ _ (subscriptTail _ (PySem.Expr.Slice none none (some _) _) (Value.ref _) (Value.ref _)) _ _ _); k_dflt (refine' txt_rev (s := ⟨_, _, _, _, _⟩) ?FQz ?NQz ?mQz ?xQz ?zQz ?kQz ?_ ?sQz ?tQz; (case FQz => k_asm); (case NQz => k_asm); (case mQz => k_mem); (case xQz => assumption); (case zQz => omega); (case kQz => exact IsPart.int _ _); (case sQz => with_unfolding_all rfl); (case tQz => (intro _; with_unfolding_all rfl)); k_whole); intro D' h' ws F' N' l1 hs9; (try k_lt l1); (try k_sweep))) | ((with_reducible show wpAny _ _ (binaryOp Operator.Add (Value.ref _) (Value.ref _)) _ _ _); (k_here; (with_reducible show wpAny _ _ (binaryOp _ (Value.ref _) (Value.ref _)) _ _ _); k_dflt (refine' txt_add ?k1Qz ?k2Qz ?k3Qz ?k4Qz ?k5Qz ?k6Qz ?k7Qz ?_; (case k1Qz => k_asm); (case k2Qz => k_asm); (case k3Qz => k_mem); (case k4Qz => assumption); (case k5Qz => k_mem); (case k6Qz => assumption); (case k7Qz => omega); k_whole); intro D' h' F' N' l1 hs9; (try k_lt l1); (try k_sweep))) | ((with_reducible show wpAny _ _ (call (Value.builtin "list.insert") _) _ _ _); (k_here; (try dsimp only [List.cons_append, List.nil_append]); (with_reducible show wpAny _ _ (call (Value.builtin _) [Value.ref _, Value.int 0 _, Value.str _ _]) _ _ _); k_dflt (refine' txt_insert0 ?k1Qz ?k2Qz ?k3Qz ?k4Qz ?k5Qz ?_; (case k1Qz => k_asm); (case k2Qz => k_asm); (case k5Qz => k_upd); (case k3Qz => assumption); (case k4Qz => omega); k_whole); intro h' F' N' hs9; (try k_sweep))) | ((with_reducible show wpAny _ _ (call (Value.builtin "list.pop") _) _ _ _); (k_here; (try dsimp only [List.cons_append, List.nil_append]); (with_reducible show wpAny _ _ (call (Value.builtin _) [Value.ref _]) _ _ _); k_dflt (refine' txt_pop ?k1Qz ?k2Qz ?k3Qz ?k6Qz ?k4Qz ?k5Qz ?_; (case k1Qz => k_asm); (case k2Qz => k_asm); (case k5Qz => k_upd); (case k3Qz => assumption); (case k4Qz => omega); (case k6Qz => first | assumption | exact ne1 (by assumption) | exact ne2 (by assumption)); k_whole); intro h' t9 F' N' hs9; (try k_sweep))) | ((with_reducible show wpAny _ _ (call (Value.builtin "list.append") _) _ _ _); (k_here; (try dsimp only [List.cons_append, List.nil_append]); (with_reducible show wpAny _ _ (call (Value.builtin _) [Value.ref _, Value.str _ _]) _ _ _); k_dflt (refine' txt_append ?k1Qz ?k2Qz ?k3Qz ?k4Qz ?k5Qz ?_; (case k1Qz => k_asm); (case k2Qz => k_asm); (case k5Qz => k_upd); (case k3Qz => assumption); (case k4Qz => omega); k_whole); intro h' F' N' hs9; (try k_sweep))) | ((with_reducible show wpAny _ _ (call (Value.builtin "str.join") _) _ _ _); (k_here; (try dsimp only [List.cons_append, List.nil_append]); (with_reducible show wpAny _ _ (call (Value.builtin _) [Value.str _ _, Value.ref _]) _ _ _); k_dflt (refine' txt_join ?k1Qz ?k2Qz ?k3Qz ?k4Qz ?_; (case k1Qz => k_asm); (case k2Qz => k_mem); (case k3Qz => assumption); (case k4Qz => first | assumption | omega); k_whole); intro t9 k9)) | ((with_reducible show wpAny _ _ (call (Value.builtin "len") _) _ _ _); (k_here; (with_reducible show wpAny _ _ (call (Value.builtin _) [Value.ref _]) _ _ _); k_dflt (refine' txt_len ?k1Qz ?k2Qz ?k3Qz ?k4Qz ?_; (case k1Qz => k_asm); (case k2Qz => k_mem); (case k3Qz => assumption); (case k4Qz => omega); k_whole))) | ((with_reducible show wpAny _ _ (truthy (Value.ref _)) _ _ _); (k_here; k_dflt (refine' txt_truthy ?k1Qz ?k2Qz ?k3Qz ?k4Qz ?_; (case k1Qz => k_asm); (case k2Qz => k_mem); (case k3Qz => assumption); (case k4Qz => omega); k_whole))) | ((with_reducible show wpAny _ _ (subscriptTail _ _ (Value.ref _) (Value.int _ _)) _ _ _); (k_here; (with_reducible show wpAny _ _ (subscriptTail _ _ (Value.ref _) (Value.int (-1) _)) _ _ _); k_dflt (refine' txt_last ?k1Qz ?k2Qz ?k3Qz ?k4Qz ?_ ?k5Qz ?k6Qz; (case k1Qz => k_asm); (case k2Qz => k_mem); (case k3Qz => assumption); (case k4Qz => first | assumption | exact ne1 (by assumption) | exact ne2 (by assumption)); (case k5Qz => with_unfolding_all rfl); (case k6Qz => (intro _; with_unfolding_all rfl)); k_whole); intro t9)) | ((with_reducible show wpAny _ _ (binaryOp Operator.Add (Value.str _ _) (Value.str _ _)) _ _ _); ((with_reducible show wpAny _ _ (binaryOp Operator.Add (Value.str _ _) (Value.str _ _)) _ _ _); (refine SB.add (hsz := ?hszQz) ?_); (case hszQz => (rw [PySem.sizeLine_eq]; (try simp only [Str.length_append]); omega)); intro t9 k9)) | ((with_reducible show wpAny _ _ (call (Value.builtin "list.append") _) _ _ _); (k_here; (try dsimp only [List.cons_append, List.nil_append]); (with_reducible show wpAny _ _ (call (Value.builtin _) [Value.ref _, _]) _ _ _); k_dflt (refine' append_K ?k1Qz ?k2Qz ?k3Qz ?_ ?zQz; (case k1Qz => k_asm); (case k2Qz => k_asm); (case k3Qz => k_upd); (case zQz => size_fits); k_whole); intro h' F' N'; (try k_sweep))) | ((with_reducible show wpAny _ _ (exec (PySem.Stmt.For (PySem.Expr.Name _ _) (PySem.Expr.Subscript _ _ _) _ _ _) _) _ _ _); (k_here; (rename Fr _ _ _ _ => lF'); (with_unfolding_all refine' For_invVF lF' ?k1Qz ?k2Qz ?_; (case k1Qz => exact rfl); (case k2Qz => exact rfl); k_whole))) | ((with_reducible show wpAny _ _ (exec (PySem.Stmt.For (PySem.Expr.Name _ _) (PySem.Expr.Call _ _ _ _) _ _ _) _) _ _ _); (k_here; (rename Fr _ _ _ _ => lF'); (with_unfolding_all refine' For_invVF lF' ?k1Qz ?k2Qz ?_; (case k1Qz => exact rfl); (case k2Qz => exact rfl); k_whole))) | ((with_reducible show wpAny _ _ (exec (PySem.Stmt.For (PySem.Expr.Name _ _) (PySem.Expr.Name _ _) _ _ _) _) _ _ _); (k_here; (rename Fr _ _ _ _ => lF'); (with_unfolding_all refine' For_invVF lF' ?k1Qz ?k2Qz ?_; (case k1Qz => exact rfl); (case k2Qz => exact rfl); k_whole))) | walk1) <;> (try dsimp only)))
          rename News h₀ _ _ _ => N9
          exact hret _ [] _ _ (by k_asm) N9 (RStr.of (by rw [toldP, ← hy])))
section
variable {prog : Program} {w : World} {A A₀ : Around} {s : Shared} {K : Frag} {L : Addr} {h₀ base : Heap} {m mg mb : Str → Option Value} {news : List (Addr × Obj)} {p : Program} {loose : List Str} {mean : ExcName → Option Value}
/-- a call of a def with *rest, whatever the number of arguments -/
theorem my_rest {env : Env} {outer : List Env} {R : Result → Shared → Prop} {name qual : Str} {params : Arguments} {body : List Stmt} {scope : Scope} {dV kV doc pm cdv ct oc : Value} {an od : Option Addr} {osl : Array (Option Value)} {f : Addr} {args : Args} {vs : List Value} {binds : Value → List (Str × Value)}
    (B : Below A₀ base outer h₀) (F : Fr h₀ L s.heap m) (X₀ : K.In h₀) (N : News h₀ L s.heap news) (T : Top p loose mean mg mb h₀) (hA : A.frames = some (env :: outer)) (hf : env.frame = some L) (hke : env.scope.kind = .function)
    (ho : K.lookup f = some ⟨oc, od, .func (fnOf name qual params body scope dV kV doc pm an cdv ct), osl⟩) (hcd : codeIn K cdv qual = true) (hroom : A.depth < recursionLimit)
    (hb : bindArgs (fnOf name qual params body scope dV kV doc pm an cdv ct) args = (newTuple vs >>= fun v => pure (binds v))) (hsz : vs.length ≤ sizeLine)
    (hloc : ∀ D, ∀ y ∈ binds D, scope.names.lookup y.1 = some .local)
    (h : ∀ D g L' h₁, (∀ p ∈ news, p.1 < D) → Fr h₀ L g m → Fr g L' h₁ (fun y => (binds (.ref D)).reverse.lookup y) → News g L' h₁ ((D, tupOf vs) :: news) → Below A base (env :: outer) g → K.In g → Top p loose mean mg mb g →
      wpAny (model prog w) (A.deeper (envOf qual scope L' f cdv)) (execs body (envOf qual scope L' f cdv))
        (fun fl s' => LeaveK h₀ L m g R (match fl with | .ret v => v | _ => .none) s')
        (fun e s' => wpAny (model prog w) (A.deeper (envOf qual scope L' f cdv)) (leaving (envOf qual scope L' f cdv) e) (fun _ s'' => R (.error e) s'') (fun e' s'' => R (.error e') s'') s')
        { s with heap := h₁, toks := s.toks + (binds (.ref D)).length })
    (hco : scope.isCoroutine = false) (hgen : scope.isGenerator = false) (hk : scope.kind = .function)
    (hcell : ∀ x ∈ scope.names, x.2 ≠ .cell) : codeAny (model prog w) A (.call (.ref f) args) R s := by
  refine codeAny_call_function (fd := fnOf name qual params body scope dV kV doc pm an cdv ct) (body := body) hroom ((X₀.keeps F.keep) _ _ ho) rfl hco hgen rfl (codeRec_of (X₀.keeps F.keep) hcd) ?_
  rw [hb]
  refine wpAny_bind (newTuple_N F N (fun h' F' N' => wpAny_pure ?_) hsz)
  exact kp_frame (cl := []) (s := { s with heap := h' }) B F' N' T.nolimit hA hf hke (hloc _) (fun g L' h₁ FG FL NG BG st => h _ g L' h₁ (fun p hp => Heap.lt_size (N p hp).1) FG FL NG BG (X₀.keeps st) (T.keeps st)) hcell hk
end
def jStep (path b : Str) : Str := if Txt.startswith b (Str.ofString "/") = true ∨ path.length = 0 then b else if Txt.endswith path (Str.ofString "/") = true then path ++ b else path ++ (Str.ofString "/" ++ b)
def joinP (x : Str) (xs : List Str) : Str := xs.foldl jStep x
theorem jStep_len (p b : Str) : (jStep p b).length ≤ p.length + (b.length + 1) := by
  have h1 : (Str.ofString "/").length = 1 := by decide
  unfold jStep; split
  · omega
  · split
    · rw [Str.length_append]; omega
    · rw [Str.length_append, Str.length_append, h1]; omega
theorem jFold_len (ps : List Str) : ∀ a, (ps.foldl jStep a).length ≤ a.length + ((ps.map (·.length)).sum + ps.length) := by
  induction ps with
  | nil => intro a; simp
  | cons p r ih =>
    intro a
    have h1 := ih (jStep a p)
    have h2 := jStep_len a p
    simp only [List.foldl_cons, List.map_cons, List.sum_cons, List.length_cons] at h1 ⊢
    omega
theorem jFold_take {ps : List Str} {i : Nat} {p a : Str} (h : ps[i]? = some p) : (ps.take (i + 1)).foldl jStep a = jStep ((ps.take i).foldl jStep a) p := by
  rw [List.take_add_one, h, List.foldl_append]; rfl
theorem sum_takeJ (ps : List Str) (i : Nat) : ((ps.take i).map (·.length)).sum + (ps.take i).length ≤ (ps.map (·.length)).sum + ps.length := by
  have e : (ps.map (·.length)).sum + ps.length = (((ps.take i).map (·.length)).sum + (ps.take i).length) + (((ps.drop i).map (·.length)).sum + (ps.drop i).length) := by
    conv => lhs; rw [← List.take_append_drop i ps]
    rw [List.map_append, List.sum_append, List.length_append]; omega
  omega
section
variable {p b : Str}
theorem j_root (h : Txt.startswith b (Str.ofString "/") = true) : jStep p b = b := by unfold jStep; rw [if_pos (.inl h)]
theorem j_empty (h : p.length = 0) : jStep p b = b := by unfold jStep; rw [if_pos (.inr h)]
theorem j_sep (h : Txt.startswith b (Str.ofString "/") = false) (h2 : p.length ≠ 0) (h3 : Txt.endswith p (Str.ofString "/") = true) : jStep p b = p ++ b := by
  unfold jStep; rw [if_neg (by rw [h]; simp [h2]), if_pos h3]
theorem j_mid (h : Txt.startswith b (Str.ofString "/") = false) (h2 : p.length ≠ 0) (h3 : Txt.endswith p (Str.ofString "/") = false) : jStep p b = p ++ (Str.ofString "/" ++ b) := by
  unfold jStep; rw [if_neg (by rw [h]; simp [h2]), if_neg (by rw [h3]; simp)]
end
theorem join_ok {w : World} {mean : ExcName → Option Value} {mg mb : Str → Option Value} {news : List (Addr × Obj)} (x : Str) (t : Tok) (vs : List Value) (xs : List Str) (hv : StrsAre vs xs) (hsz : x.length + (xs.map (·.length)).sum + xs.length ≤ 10000) :
    Tells w mean mg mb 0 3 48 140 news (.str x t :: vs) (RStr (joinP x xs)) := by
  w_on
  w_strict (
    refine Tells.of ?_
    unfold Tells0
    k_fill
    intro dp un gd cn cs a ccd cl outer A₀ base h₀ L m s Q E B F X N T hk hd hu htk hret
    refine wpAny_call ?_
    k_dflt (refine' my_rest (vs := vs) (binds := fun D => [(Str.ofString "a", .str x t), (Str.ofString "p", D)]) ?k1 ?k2 ?k3 ?k4 ?k5 ?kA ?kF ?kK ?k6 ?k7 ?k8 ?kV ?kZ ?kB ?_ ?c2 ?c3 ?c4 ?c5; (case kA => exact rfl); (case kF => exact rfl); (case kK => assumption); (case k1 => k_asm); (case k2 => k_asm); (case k3 => k_asm); (case k4 => k_asm); (case k5 => k_asm); (case k6 => k_is); (case k7 => k_is); (case k8 => ktr_room); (case kV => (cases vs <;> rfl)); (case kZ => (rw [hv.len_eq, PySem.sizeLine_eq]; omega)); (case kB => exact fun _ => locs rfl); (case c5 => decide); (case c2 => exact rfl); (case c3 => exact rfl); (case c4 => exact rfl); k_whole; intro D' g' L' h' l1 FG' F' N' B' X' T'; (try k_lt l1); (try dsimp only); (try k_fold))
    
    repeat' ((fail_if_success (with_reducible show wpAny _ _ (pyIter _) _ _ _)); ((first | ((with_reducible show wpAny _ _ (call (Value.ref 133) _) _ _ _); (k_here; k_dflt (refine' Tells.useS ?k1Qz ?k2Qz ?k3Qz ?k4Qz ?k5Qz ?k6Qz (getsep_ok _ _) ?k7Qz ?k8Qz ?k9Qz ?_; (case k1Qz => k_asm); (case k2Qz => k_asm); (case k3Qz => k_asm); (case k4Qz => k_asm); (case k5Qz => k_asm); (case k6Qz => first | exact rfl | assumption); (case k7Qz => ktr_room); (case k8Qz => ktr_units); (case k9Qz => first | exact Nat.zero_le _ | omega); k_whole; intro t9 h9 tk9 F9 N9 htk9))) | ((with_reducible show wpAny _ _ (call (Value.ref 119) _) _ _ _); (k_here; k_dflt (refine' Tells.useS ?k1Qz ?k2Qz ?k3Qz ?k4Qz ?k5Qz ?k6Qz (fspath_ok _ _) ?k7Qz ?k8Qz ?k9Qz ?_; (case k1Qz => k_asm); (case k2Qz => k_asm); (case k3Qz => k_asm); (case k4Qz => k_asm); (case k5Qz => k_asm); (case k6Qz => first | exact rfl | assumption); (case k7Qz => ktr_room); (case k8Qz => ktr_units); (case k9Qz => first | exact Nat.zero_le _ | omega); k_whole; intro t9 h9 tk9 F9 N9 htk9))) | ((with_reducible show wpAny _ _ (call (Value.builtin "str.split") _) _ _ _); (k_here; (try dsimp only [List.cons_append, List.nil_append]); (with_reducible show wpAny _ _ (call (Value.builtin _) [Value.str _ _, Value.str _ _]) _ _ _); k_dflt (refine' txt_split ?k1Qz ?k2Qz ?k3Qz ?k4Qz ?_; (case k1Qz => k_asm); (case k2Qz => k_asm); (case k3Qz => rfl); (case k4Qz => omega); k_whole); intro D' h' ws k9 F' N' l1 hs9; (try k_lt l1); (try k_sweep))) | ((with_reducible show wpAny _ _ (subscriptTail _ (PySem.Expr.Slice _ _ _ _) (Value.ref _) (Value.ref _)) _ _ _); (k_here; (with_reducible show wpAny _ _ (subscriptTail _ (PySem.Expr.Slice _ _ none _) (Value.ref _) (Value.ref _)) _ _ _); k_dflt (refine' txt_slice (s := ⟨_, _, _, _, _⟩) ?FQz ?NQz ?mQz ?xQz ?zQz ?pQz ?qQz ?yQz ?_ ?sQz ?tQz; (case FQz => k_asm); (case NQz => k_asm); (case mQz => k_mem); (case xQz => assumption); (case zQz => omega); (case pQz => first | exact IsPart.none | exact IsPart.int _ _); (case qQz => first | exact IsPart.none | exact IsPart.int _ _); (case yQz => first | exact pick_upto1 (by assumption) | exact pick_run1 (by assumption) (by omega) | exact pick_from (by assumption) (by omega)); (case sQz => with_unfolding_all rfl); (case tQz => (intro _; with_unfolding_all rfl)); k_whole); intro D' h' ws F' N' l1 hs9; (try k_lt l1); (try k_sweep))) | ((with_reducible show wpAny _ _ (subscriptTail _ (PySem.Expr.Slice _ _ _ _) (Value.ref _) (Value.ref _)) _ _ _); (k_here; (with_reducible show wpAny _ _ (subscriptTail _ (PySem.Expr.Slice none none (some _) _) (Value.ref _) (Value.ref _)) _ _ _); k_dflt (refine' txt_rev (s := ⟨_, _, _, _, _⟩) ?FQz ?NQz ?mQz ?xQz ?zQz ?kQz ?_ ?sQz ?tQz; (case FQz => k_asm); (case NQz => k_asm); (case mQz => k_mem); (case xQz => assumption); (case zQz => omega); (case kQz => exact IsPart.int _ _); (case sQz => with_unfolding_all rfl); (case tQz => (intro _; with_unfolding_all rfl)); k_whole); intro D' h' ws F' N' l1 hs9; (try k_lt l1); (try k_sweep))) | ((with_reducible show wpAny _ _ (binaryOp Operator.Add (Value.ref _) (Value.ref _)) _ _ _); (k_here; (with_reducible show wpAny _ _ (binaryOp _ (Value.ref _) (Value.ref _)) _ _ _); k_dflt (refine' txt_add ?k1Qz ?k2Qz ?k3Qz ?k4Qz ?k5Qz ?k6Qz ?k7Qz ?_; (case k1Qz => k_asm); (case k2Qz => k_asm); (case k3Qz => k_mem); (case k4Qz => assumption); (case k5Qz => k_mem); (case k6Qz => assumption); (case k7Qz => omega); k_whole); intro D' h' F' N' l1 hs9; (try k_lt l1); (try k_sweep))) | ((with_reducible show wpAny _ _ (call (Value.builtin "list.insert") _) _ _ _); (k_here; (try dsimp only [List.cons_append, List.nil_append]); (with_reducible show wpAny _ _ (call (Value.builtin _) [Value.ref _, Value.int 0 _, Value.str _ _]) _ _ _); k_dflt (refine' txt_insert0 ?k1Qz ?k2Qz ?k3Qz ?k4Qz ?k5Qz ?_; (case k1Qz => k_asm); (case k2Qz => k_asm); (case k5Qz => k_upd); (case k3Qz => assumption); (case k4Qz => omega); k_whole); intro h' F' N' hs9; (try k_sweep))) | ((with_reducible show wpAny _ _ (call (Value.builtin "list.pop") _) _ _ _); (k_here; (try dsimp only [List.cons_append, List.nil_append]); (with_reducible show wpAny _ _ (call (Value.builtin _) [Value.ref _]) _ _ _); k_dflt (refine' txt_pop ?k1Qz ?k2Qz ?k3Qz ?k6Qz ?k4Qz ?k5Qz ?_; (case k1Qz => k_asm); (case k2Qz => k_asm); (case k5Qz => k_upd); (case k3Qz => assumption); (case k4Qz => omega); (case k6Qz => first | assumption | exact ne1 (by assumption) | exact ne2 (by assumption)); k_whole); intro h' t9 F' N' hs9; (try k_sweep))) | ((with_reducible show wpAny _ _ (call (Value.builtin "list.append") _) _ _ _); (k_here; (try dsimp only [List.cons_append, List.nil_append]); (with_reducible show wpAny _ _ (call (Value.builtin _) [Value.ref _, Value.str _ _]) _ _ _); k_dflt (refine' txt_append ?k1Qz ?k2Qz ?k3Qz ?k4Qz ?k5Qz ?_; (case k1Qz => k_asm); (case k2Qz => k_asm); (case k5Qz => k_upd); (case k3Qz => assumption); (case k4Qz => omega); k_whole); intro h' F' N' hs9; (try k_sweep))) | ((with_reducible show wpAny _ _ (call (Value.builtin "str.join") _) _ _ _); (k_here; (try dsimp only [List.cons_append, List.nil_append]); (with_reducible show wpAny _ _ (call (Value.builtin _) [Value.str _ _, Value.ref _]) _ _ _); k_dflt (refine' txt_join ?k1Qz ?k2Qz ?k3Qz ?k4Qz ?_; (case k1Qz => k_asm); (case k2Qz => k_mem); (case k3Qz => assumption); (case k4Qz => first | assumption | omega); k_whole); intro t9 k9)) | ((with_reducible show wpAny _ _ (call (Value.builtin "len") _) _ _ _); (k_here; (with_reducible show wpAny _ _ (call (Value.builtin _) [Value.ref _]) _ _ _); k_dflt (refine' txt_len ?k1Qz ?k2Qz ?k3Qz ?k4Qz ?_; (case k1Qz => k_asm); (case k2Qz => k_mem); (case k3Qz => assumption); (case k4Qz => omega); k_whole))) | ((with_reducible show wpAny _ _ (truthy (Value.ref _)) _ _ _); (k_here; k_dflt (refine' txt_truthy ?k1Qz ?k2Qz ?k3Qz ?k4Qz ?_; (case k1Qz => k_asm); (case k2Qz => k_mem); (case k3Qz => assumption); (case k4Qz => omega); k_whole))) | ((with_reducible show wpAny _ _ (subscriptTail _ _ (Value.ref _) (Value.int _ _)) _ _ _); (k_here; (with_reducible show wpAny _ _ (subscriptTail _ _ (Value.ref _) (Value.int (-1) _)) _ _ _); k_dflt (refine' txt_last ?k1Qz ?k2Qz ?k3Qz ?k4Qz ?_ ?k5Qz ?k6Qz; (case k1Qz => k_asm); (case k2Qz => k_mem); (case k3Qz => assumption); (case k4Qz => first | assumption | exact ne1 (by assumption) | exact ne2 (by assumption)); (case k5Qz => with_unfolding_all rfl); (case k6Qz => (intro _; with_unfolding_all rfl)); k_whole); intro t9)) | ((with_reducible show wpAny _ _ (binaryOp Operator.Add (Value.str _ _) (Value.str _ _)) _ _ _); ((with_reducible show wpAny _ _ (binaryOp Operator.Add (Value.str _ _) (Value.str _ _)) _ _ _); (refine SB.add (hsz := ?hszQz) ?_); (case hszQz => (rw [PySem.sizeLine_eq]; (try simp only [Str.length_append]); omega)); intro t9 k9)) | ((with_reducible show wpAny _ _ (call (Value.builtin "list.append") _) _ _ _); (k_here; (try dsimp only [List.cons_append, List.nil_append]); (with_reducible show wpAny _ _ (call (Value.builtin _) [Value.ref _, _]) _ _ _); k_dflt (refine' append_K ?k1Qz ?k2Qz ?k3Qz ?_ ?zQz; (case k1Qz => k_asm); (case k2Qz => k_asm); (case k3Qz => k_upd); (case zQz => size_fits); k_whole); intro h' F' N'; (try k_sweep))) | ((with_reducible show wpAny _ _ (exec (PySem.Stmt.For (PySem.Expr.Name _ _) (PySem.Expr.Subscript _ _ _) _ _ _) _) _ _ _); (k_here; (rename Fr _ _ _ _ => lF'); (with_unfolding_all refine' For_invVF lF' ?k1Qz ?k2Qz ?_; (case k1Qz => exact rfl); (case k2Qz => exact rfl); k_whole))) | ((with_reducible show wpAny _ _ (exec (PySem.Stmt.For (PySem.Expr.Name _ _) (PySem.Expr.Call _ _ _ _) _ _ _) _) _ _ _); (k_here; (rename Fr _ _ _ _ => lF'); (with_unfolding_all refine' For_invVF lF' ?k1Qz ?k2Qz ?_; (case k1Qz => exact rfl); (case k2Qz => exact rfl); k_whole))) | ((with_reducible show wpAny _ _ (exec (PySem.Stmt.For (PySem.Expr.Name _ _) (PySem.Expr.Name _ _) _ _ _) _) _ _ _); (k_here; (rename Fr _ _ _ _ => lF'); (with_unfolding_all refine' For_invVF lF' ?k1Qz ?k2Qz ?_; (case k1Qz => exact rfl); (case k2Qz => exact rfl); k_whole))) | walk1) <;> (try dsimp only)))
    rename News _ _ _ _ => N1
    rename Fr _ _ _ _ => F1
    refine iter_tup (σ := Str × Tok) (fun st m z => if z = Str.ofString "path" then some (.str st.1 st.2) else m z) (fun _ => news) (fun i st => st.1 = (xs.take i).foldl jStep x) (x, _) (news.map (·.1)) rfl F1 N1 (.head _) (fun st => rfl) (upd1 rfl) (fun p hp => .tail _ hp) rfl ?_ ?_
    · rintro i v ⟨y, ty⟩ h tk own hv' hy hoff F2 N2
      clear N1 F1
      obtain ⟨p, tp, rfl, hpi, hpm⟩ := strs_get hv hv'
      have hyl := jFold_len (xs.take i) x
      have hyt := sum_takeJ xs i
      have hpl := len_le_sum hpm
      have h1 : (Str.ofString "/").length = 1 := by decide
      dsimp only at F2 N2 hy ⊢
      rw [← hy] at hyl
      (with_reducible show wpAny _ _ _ _ _ _)
      k_fold
      repeat' ((fail_if_success (with_reducible show wpAny _ _ (pyIter _) _ _ _)); ((first | ((with_reducible show wpAny _ _ (call (Value.ref 133) _) _ _ _); (k_here; k_dflt (refine' Tells.useS ?k1Qz ?k2Qz ?k3Qz ?k4Qz ?k5Qz ?k6Qz (getsep_ok _ _) ?k7Qz ?k8Qz ?k9Qz ?_; (case k1Qz => k_asm); (case k2Qz => k_asm); (case k3Qz => k_asm); (case k4Qz => k_asm); (case k5Qz => k_asm); (case k6Qz => first | exact rfl | assumption); (case k7Qz => ktr_room); (case k8Qz => ktr_units); (case k9Qz => first | exact Nat.zero_le _ | omega); k_whole; intro t9 h9 tk9 F9 N9 htk9))) | ((with_reducible show wpAny _ _ (call (Value.ref 119) _) _ _ _); (k_here; k_dflt (refine' Tells.useS ?k1Qz ?k2Qz ?k3Qz ?k4Qz ?k5Qz ?k6Qz (fspath_ok _ _) ?k7Qz ?k8Qz ?k9Qz ?_; (case k1Qz => k_asm); (case k2Qz => k_asm); (case k3Qz => k_asm); (case k4Qz => k_asm); (case k5Qz => k_asm); (case k6Qz => first | exact rfl | assumption); (case k7Qz => ktr_room); (case k8Qz => ktr_units); (case k9Qz => first | exact Nat.zero_le _ | omega); k_whole; intro t9 h9 tk9 F9 N9 htk9))) | ((with_reducible show wpAny _ _ (call (Value.builtin "str.split") _) _ _ _); (k_here; (try dsimp only [List.cons_append, List.nil_append]); (with_reducible show wpAny _ _ (call (Value.builtin _) [Value.str _ _, Value.str _ _]) _ _ _); k_dflt (refine' txt_split ?k1Qz ?k2Qz ?k3Qz ?k4Qz ?_; (case k1Qz => k_asm); (case k2Qz => k_asm); (case k3Qz => rfl); (case k4Qz => omega); k_whole); intro D' h' ws k9 F' N' l1 hs9; (try k_lt l1); (try k_sweep))) | ((with_reducible show wpAny _ _ (subscriptTail _ (PySem.Expr.Slice _ _ _ _) (Value.ref _) (Value.ref _)) _ _ _); (k_here; (with_reducible show wpAny _ _ (subscriptTail _ (PySem.Expr.Slice _ _ none _) (Value.ref _) (Value.ref _)) _ _ _); k_dflt (refine' txt_slice (s := ⟨_, _, _, _, _⟩) ?FQz ?NQz ?mQz ?xQz ?zQz ?pQz ?qQz ?yQz ?_ ?sQz ?tQz; (case FQz => k_asm); (case NQz => k_asm); (case mQz => k_mem); (case xQz => assumption); (case zQz => omega); (case pQz => first | exact IsPart.none | exact IsPart.int _ _); (case qQz => first | exact IsPart.none | exact IsPart.int _ _); (case yQz => first | exact pick_upto1 (by assumption) | exact pick_run1 (by assumption) (by omega) | exact pick_from (by assumption) (by omega)); (case sQz => with_unfolding_all rfl); (case tQz => (intro _; with_unfolding_all rfl)); k_whole); intro D' h' ws F' N' l1 hs9; (try k_lt l1); (try k_sweep))) | ((with_reducible show wpAny _ _ (subscriptTail _ (PySem.Expr.Slice _ _ _ _) (Value.ref _) (Value.ref _)) _ _ _); (k_here; (with_reducible show wpAny _ _ (subscriptTail _ (PySem.Expr.Slice none none (some _) _) (Value.ref _) (Value.ref _)) _ _ _); k_dflt (refine' txt_rev (s := ⟨_, _, _, _, _⟩) ?FQz ?NQz ?mQz ?xQz ?zQz ?kQz ?_ ?sQz ?tQz; (case FQz => k_asm); (case NQz => k_asm); (case mQz => k_mem); (case xQz => assumption); (case zQz => omega); (case kQz => exact IsPart.int _ _); (case sQz => with_unfolding_all rfl); (case tQz => (intro _; with_unfolding_all rfl)); k_whole); intro D' h' ws F' N' l1 hs9; (try k_lt l1); (try k_sweep))) | ((with_reducible show wpAny _ _ (binaryOp Operator.Add (Value.ref _) (Value.ref _)) _ _ _); (k_here; (with_reducible show wpAny _ _ (binaryOp _ (Value.ref _) (Value.ref _)) _ _ _); k_dflt (refine' txt_add ?k1Qz ?k2Qz ?k3Qz ?k4Qz ?k5Qz ?k6Qz ?k7Qz ?_; (case k1Qz => k_asm); (case k2Qz => k_asm); (case k3Qz => k_mem); (case k4Qz => assumption); (case k5Qz => k_mem); (case k6Qz => assumption); (case k7Qz => omega); k_whole); intro D' h' F' N' l1 hs9; (try k_lt l1); (try k_sweep))) | ((with_reducible show wpAny _ _ (call (Value.builtin "list.insert") _) _ _ _); (k_here; (try dsimp only [List.cons_append, List.nil_append]); (with_reducible show wpAny _ _ (call (Value.builtin _) [Value.ref _, Value.int 0 _, Value.str _ _]) _ _ _); k_dflt (refine' txt_insert0 ?k1Qz ?k2Qz ?k3Qz ?k4Qz ?k5Qz ?_; (case k1Qz => k_asm); (case k2Qz => k_asm); (case k5Qz => k_upd); (case k3Qz => assumption); (case k4Qz => omega); k_whole); intro h' F' N' hs9; (try k_sweep))) | ((with_reducible show wpAny _ _ (call (Value.builtin "list.pop") _) _ _ _); (k_here; (try dsimp only [List.cons_append, List.nil_append]); (with_reducible show wpAny _ _ (call (Value.builtin _) [Value.ref _]) _ _ _); k_dflt (refine' txt_pop ?k1Qz ?k2Qz ?k3Qz ?k6Qz ?k4Qz ?k5Qz ?_; (case k1Qz => k_asm); (case k2Qz => k_asm); (case k5Qz => k_upd); (case k3Qz => assumption); (case k4Qz => omega); (case k6Qz => first | assumption | exact ne1 (by assumption) | exact ne2 (by assumption)); k_whole); intro h' t9 F' N' hs9; (try k_sweep))) | ((with_reducible show wpAny _ _ (call (Value.builtin "list.append") _) _ _ _); (k_here; (try dsimp only [List.cons_append, List.nil_append]); (with_reducible show wpAny _ _ (call (Value.builtin _) [Value.ref _, Value.str _ _]) _ _ _); k_dflt (refine' txt_append ?k1Qz ?k2Qz ?k3Qz ?k4Qz ?k5Qz ?_; (case k1Qz => k_asm); (case k2Qz => k_asm); (case k5Qz => k_upd); (case k3Qz => assumption); (case k4Qz => omega); k_whole); intro h' F' N' hs9; (try k_sweep))) | ((with_reducible show wpAny _ _ (call (Value.builtin "str.join") _) _ _ _); (k_here; (try dsimp only [List.cons_append, List.nil_append]); (with_reducible show wpAny _ _ (call (Value.builtin _) [Value.str _ _, Value.ref _]) _ _ _); k_dflt (refine' txt_join ?k1Qz ?k2Qz ?k3Qz ?k4Qz ?_; (case k1Qz => k_asm); (case k2Qz => k_mem); (case k3Qz => assumption); (case k4Qz => first | assumption | omega); k_whole); intro t9 k9)) | ((with_reducible show wpAny _ _ (call (Value.builtin "len") _) _ _ _); (k_here; (with_reducible show wpAny _ _ (call (Value.builtin _) [Value.ref _]) _ _ _); k_dflt (refine' txt_len ?k1Qz ?k2Qz ?k3Qz ?k4Qz ?_; (case k1Qz => k_asm); (case k2Qz => k_mem); (case k3Qz => assumption); (case k4Qz => omega); k_whole))) | ((with_reducible show wpAny _ _ (truthy (Value.ref _)) _ _ _); (k_here; k_dflt (refine' txt_truthy ?k1Qz ?k2Qz ?k3Qz ?k4Qz ?_; (case k1Qz => k_asm); (case k2Qz => k_mem); (case k3Qz => assumption); (case k4Qz => omega); k_whole))) | ((with_reducible show wpAny _ _ (subscriptTail _ _ (Value.ref _) (Value.int _ _)) _ _ _); (k_here; (with_reducible show wpAny _ _ (subscriptTail _ _ (Value.ref _) (Value.int (-1) _)) _ _ _); k_dflt (refine' txt_last ?k1Qz ?k2Qz ?k3Qz ?k4Qz ?_ ?k5Qz ?k6Qz; (case k1Qz => k_asm); (case k2Qz => k_mem); (case k3Qz => assumption); (case k4Qz => first | assumption | exact ne1 (by assumption) | exact ne2 (by assumption)); (case k5Qz => with_unfolding_all rfl); (case k6Qz => (intro _; with_unfolding_all rfl)); k_whole); intro t9)) | ((with_reducible show wpAny _ _ (binaryOp Operator.Add (Value.str _ _) (Value.str _ _)) _ _ _); ((with_reducible show wpAny _ _ (binaryOp Operator.Add (Value.str _ _) (Value.str _ _)) _ _ _); (refine SB.add (hsz := ?hszQz) ?_); (case hszQz => (rw [PySem.sizeLine_eq]; (try simp only [Str.length_append]); omega)); intro t9 k9)) | ((with_reducible show wpAny _ _ (call (Value.builtin "list.append") _) _ _ _); (k_here; (try dsimp only [List.cons_append, List.nil_append]); (with_reducible show wpAny _ _ (call (Value.builtin _) [Value.ref _, _]) _ _ _); k_dflt (refine' append_K ?k1Qz ?k2Qz ?k3Qz ?_ ?zQz; (case k1Qz => k_asm); (case k2Qz => k_asm); (case k3Qz => k_upd); (case zQz => size_fits); k_whole); intro h' F' N'; (try k_sweep))) | ((with_reducible show wpAny _ _ (exec (PySem.Stmt.For (PySem.Expr.Name _ _) (PySem.Expr.Subscript _ _ _) _ _ _) _) _ _ _); (k_here; (rename Fr _ _ _ _ => lF'); (with_unfolding_all refine' For_invVF lF' ?k1Qz ?k2Qz ?_; (case k1Qz => exact rfl); (case k2Qz => exact rfl); k_whole))) | ((with_reducible show wpAny _ _ (exec (PySem.Stmt.For (PySem.Expr.Name _ _) (PySem.Expr.Call _ _ _ _) _ _ _) _) _ _ _); (k_here; (rename Fr _ _ _ _ => lF'); (with_unfolding_all refine' For_invVF lF' ?k1Qz ?k2Qz ?_; (case k1Qz => exact rfl); (case k2Qz => exact rfl); k_whole))) | ((with_reducible show wpAny _ _ (exec (PySem.Stmt.For (PySem.Expr.Name _ _) (PySem.Expr.Name _ _) _ _ _) _) _ _ _); (k_here; (rename Fr _ _ _ _ => lF'); (with_unfolding_all refine' For_invVF lF' ?k1Qz ?k2Qz ?_; (case k1Qz => exact rfl); (case k2Qz => exact rfl); k_whole))) | walk1) <;> (try dsimp only)))
      all_goals (k_unfold; dsimp only [StPost]; rename Fr _ _ _ _ => F9; rename News _ _ _ _ => N9)
      all_goals (
        refine' StEnd.intro (_, _) F9 N9 (fun p hp => List.mem_append_left _ hp) (fun p hp => List.mem_append_right _ hp) (feq1 rfl (fun z hx ha => by simp only [if_neg hx, if_neg ha])) ?_
        show _ = _
        rw [jFold_take hpi, ← hy]
        first
          | exact (j_root (by assumption)).symm
          | exact (j_empty (by omega)).symm
          | exact (j_sep (by assumption) (by omega) (by assumption)).symm
          | exact (j_mid (by assumption) (by omega) (by assumption)).symm)
    · rintro u2 ⟨y, ty⟩ h tk hy F2 N2
      clear N1 F1
      dsimp only at hy F2 N2 ⊢
      rw [List.take_of_length_le (by rw [List.size_toArray, hv.len_eq]; exact Nat.le_refl _)] at hy
      repeat' ((fail_if_success (with_reducible show wpAny _ _ (pyIter _) _ _ _)); ((first | ((with_reducible show wpAny _ _ (call (Value.ref 133) _) _ _ _); (k_here; k_dflt (refine' Tells.useS ?k1Qz ?k2Qz ?k3Qz ?k4Qz ?k5Qz ?k6Qz (getsep_ok _ _) ?k7Qz ?k8Qz ?k9Qz ?_; (case k1Qz => k_asm); (case k2Qz => k_asm); (case k3Qz => k_asm); (case k4Qz => k_asm); (case k5Qz => k_asm); (case k6Qz => first | exact rfl | assumption); (case k7Qz => ktr_room); (case k8Qz => ktr_units); (case k9Qz => first | exact Nat.zero_le _ | omega); k_whole; intro t9 h9 tk9 F9 N9 htk9))) | ((with_reducible show wpAny _ _ (call (Value.ref 119) _) _ _ _); (k_here; k_dflt (refine' Tells.useS ?k1Qz ?k2Qz ?k3Qz ?k4Qz ?k5Qz ?k6Qz (fspath_ok _ _) ?k7Qz ?k8Qz ?k9Qz ?_; (case k1Qz => k_asm); (case k2Qz => k_asm); (case k3Qz => k_asm); (case k4Qz => k_asm); (case k5Qz => k_asm); (case k6Qz => first | exact rfl | assumption); (case k7Qz => ktr_room); (case k8Qz => ktr_units); (case k9Qz => first | exact Nat.zero_le _ | omega); k_whole; intro t9 h9 tk9 F9 N9 htk9))) | ((with_reducible show wpAny _ _ (call (Value.builtin "str.split") _) _ _ _); (k_here; (try dsimp only [List.cons_append, List.nil_append]); (with_reducible show wpAny _ _ (call (Value.builtin _) [Value.str _ _, Value.str _ _]) _ _ _); k_dflt (refine' txt_split ?k1Qz ?k2Qz ?k3Qz ?k4Qz ?_; (case k1Qz => k_asm); (case k2Qz => k_asm); (case k3Qz => rfl); (case k4Qz => omega); k_whole); intro D' h' ws k9 F' N' l1 hs9; (try k_lt l1); (try k_sweep))) | ((with_reducible show wpAny _ _ (subscriptTail _ (PySem.Expr.Slice _ _ _ _) (Value.ref _) (Value.ref _)) _ _ _); (k_here; (with_reducible show wpAny _ _ (subscriptTail _ (PySem.Expr.Slice _ _ none _) (Value.ref _) (Value.ref _)) _ _ _); k_dflt (refine' txt_slice (s := ⟨_, _, _, _, _⟩) ?FQz ?NQz ?mQz ?xQz ?zQz ?pQz ?qQz ?yQz ?_ ?sQz ?tQz; (case FQz => k_asm); (case NQz => k_asm); (case mQz => k_mem); (case xQz => assumption); (case zQz => omega); (case pQz => first | exact IsPart.none | exact IsPart.int _ _); (case qQz => first | exact IsPart.none | exact IsPart.int _ _); (case yQz => first | exact pick_upto1 (by assumption) | exact pick_run1 (by assumption) (by omega) | exact pick_from (by assumption) (by omega)); (case sQz => with_unfolding_all rfl); (case tQz => (intro _; with_unfolding_all rfl)); k_whole); intro D' h' ws F' N' l1 hs9; (try k_lt l1); (try k_sweep))) | ((with_reducible show wpAny _ _ (subscriptTail _ (PySem.Expr.Slice _ _ _ _) (Value.ref _) (Value.ref _)) _ _ _); (k_here; (with_reducible show wpAny _ _ (subscriptTail _ (PySem.Expr.Slice none none (some _) _) (Value.ref _) (Value.ref _)) _ _ _); k_dflt (refine' txt_rev (s := ⟨_, _, _, _, _⟩) ?FQz ?NQz ?mQz ?xQz ?zQz ?kQz ?_ ?sQz ?tQz; (case FQz => k_asm); (case NQz => k_asm); (case mQz => k_mem); (case xQz => assumption); (case zQz => omega); (case kQz => exact IsPart.int _ _); (case sQz => with_unfolding_all rfl); (case tQz => (intro _; with_unfolding_all rfl)); k_whole); intro D' h' ws F' N' l1 hs9; (try k_lt l1); (try k_sweep))) | ((with_reducible show wpAny _ _ (binaryOp Operator.Add (Value.ref _) (Value.ref _)) _ _ _); (k_here; (with_reducible show wpAny _ _ (binaryOp _ (Value.ref _) (Value.ref _)) _ _ _); k_dflt (refine' txt_add ?k1Qz ?k2Qz ?k3Qz ?k4Qz ?k5Qz ?k6Qz ?k7Qz ?_; (case k1Qz => k_asm); (case k2Qz => k_asm); (case k3Qz => k_mem); (case k4Qz => assumption); (case k5Qz => k_mem); (case k6Qz => assumption); (case k7Qz => omega); k_whole); intro D' h' F' N' l1 hs9; (try k_lt l1); (try k_sweep))) | ((with_reducible show wpAny _ _ (call (Value.builtin "list.insert") _) _ _ _); (k_here; (try dsimp only [List.cons_append, List.nil_append]); (with_reducible show wpAny _ _ (call (Value.builtin _) [Value.ref _, Value.int 0 _, Value.str _ _]) _ _ _); k_dflt (refine' txt_insert0 ?k1Qz ?k2Qz ?k3Qz ?k4Qz ?k5Qz ?_; (case k1Qz => k_asm); (case k2Qz => k_asm); (case k5Qz => k_upd); (case k3Qz => assumption); (case k4Qz => omega); k_whole); intro h' F' N' hs9; (try k_sweep))) | ((with_reducible show wpAny _ _ (call (Value.builtin "list.pop") _) _ _ _); (k_here; (try dsimp only [List.cons_append, List.nil_append]); (with_reducible show wpAny _ _ (call (Value.builtin _) [Value.ref _]) _ _ _); k_dflt (refine' txt_pop ?k1Qz ?k2Qz ?k3Qz ?k6Qz ?k4Qz ?k5Qz ?_; (case k1Qz => k_asm); (case k2Qz => k_asm); (case k5Qz => k_upd); (case k3Qz => assumption); (case k4Qz => omega); (case k6Qz => first | assumption | exact ne1 (by assumption) | exact ne2 (by assumption)); k_whole); intro h' t9 F' N' hs9; (try k_sweep))) | ((with_reducible show wpAny _ _ (call (Value.builtin "list.append") _) _ _ _); (k_here; (try dsimp only [List.cons_append, List.nil_append]); (with_reducible show wpAny _ _ (call (Value.builtin _) [Value.ref _, Value.str _ _]) _ _ _); k_dflt (refine' txt_append ?k1Qz ?k2Qz ?k3Qz ?k4Qz ?k5Qz ?_; (case k1Qz => k_asm); (case k2Qz => k_asm); (case k5Qz => k_upd); (case k3Qz => assumption); (case k4Qz => omega); k_whole); intro h' F' N' hs9; (try k_sweep))) | ((with_reducible show wpAny _ _ (call (Value.builtin "str.join") _) _ _ _); (k_here; (try dsimp only [List.cons_append, List.nil_append]); (with_reducible show wpAny _ _ (call (Value.builtin _) [Value.str _ _, Value.ref _]) _ _ _); k_dflt (refine' txt_join ?k1Qz ?k2Qz ?k3Qz ?k4Qz ?_; (case k1Qz => k_asm); (case k2Qz => k_mem); (case k3Qz => assumption); (case k4Qz => first | assumption | omega); k_whole); intro t9 k9)) | ((with_reducible show wpAny _ _ (call (Value.builtin "len") _) _ _ _); (k_here; (with_reducible show wpAny _ _ (call (Value.builtin _) [Value.ref _]) _ _ _); k_dflt (refine' txt_len ?k1Qz ?k2Qz ?k3Qz ?k4Qz ?_; (case k1Qz => k_asm); (case k2Qz => k_mem); (case k3Qz => assumption); (case k4Qz => omega); k_whole))) | ((with_reducible show wpAny _ _ (truthy (Value.ref _)) _ _ _); (k_here; k_dflt (refine' txt_truthy ?k1Qz ?k2Qz ?k3Qz ?k4Qz ?_; (case k1Qz => k_asm); (case k2Qz => k_mem); (case k3Qz => assumption); (case k4Qz => omega); k_whole))) | ((with_reducible show wpAny _ _ (subscriptTail _ _ (Value.ref _) (Value.int _ _)) _ _ _); (k_here; (with_reducible show wpAny _ _ (subscriptTail _ _ (Value.ref _) (Value.int (-1) _)) _ _ _); k_dflt (refine' txt_last ?k1Qz ?k2Qz ?k3Qz ?k4Qz ?_ ?k5Qz ?k6Qz; (case k1Qz => k_asm); (case k2Qz => k_mem); (case k3Qz => assumption); (case k4Qz => first | assumption | exact ne1 (by assumption) | exact ne2 (by assumption)); (case k5Qz => with_unfolding_all rfl); (case k6Qz => (intro _; with_unfolding_all rfl)); k_whole); intro t9)) | ((with_reducible show wpAny _ _ (binaryOp Operator.Add (Value.str _ _) (Value.str _ _)) _ _ _); ((with_reducible show wpAny _ _ (binaryOp Operator.Add (Value.str _ _) (Value.str _ _)) _ _ _); (refine SB.add (hsz := ?hszQz) ?_); (case hszQz => (rw [PySem.sizeLine_eq]; (try simp only [Str.length_append]); omega)); intro t9 k9)) | ((with_reducible show wpAny _ _ (call (Value.builtin "list.append") _) _ _ _); (k_here; (try dsimp only [List.cons_append, List.nil_append]); (with_reducible show wpAny _ _ (call (Value.builtin _) [Value.ref _, _]) _ _ _); k_dflt (refine' append_K ?k1Qz ?k2Qz ?k3Qz ?_ ?zQz; (case k1Qz => k_asm); (case k2Qz => k_asm); (case k3Qz => k_upd); (case zQz => size_fits); k_whole); intro h' F' N'; (try k_sweep))) | ((with_reducible show wpAny _ _ (exec (PySem.Stmt.For (PySem.Expr.Name _ _) (PySem.Expr.Subscript _ _ _) _ _ _) _) _ _ _); (k_here; (rename Fr _ _ _ _ => lF'); (with_unfolding_all refine' For_invVF lF' ?k1Qz ?k2Qz ?_; (case k1Qz => exact rfl); (case k2Qz => exact rfl); k_whole))) | ((with_reducible show wpAny _ _ (exec (PySem.Stmt.For (PySem.Expr.Name _ _) (PySem.Expr.Call _ _ _ _) _ _ _) _) _ _ _); (k_here; (rename Fr _ _ _ _ => lF'); (with_unfolding_all refine' For_invVF lF' ?k1Qz ?k2Qz ?_; (case k1Qz => exact rfl); (case k2Qz => exact rfl); k_whole))) | ((with_reducible show wpAny _ _ (exec (PySem.Stmt.For (PySem.Expr.Name _ _) (PySem.Expr.Name _ _) _ _ _) _) _ _ _); (k_here; (rename Fr _ _ _ _ => lF'); (with_unfolding_all refine' For_invVF lF' ?k1Qz ?k2Qz ?_; (case k1Qz => exact rfl); (case k2Qz => exact rfl); k_whole))) | walk1) <;> (try dsimp only)))
      rename News h₀ _ _ _ => N9
      exact hret _ [] _ _ (by k_asm) N9 (RStr.of hy))
/-- a row of a dict of texts: key, its token, value, its token -/
abbrev Row4 := Str × Tok × Str × Tok
def rEnt (w : World) (q : Row4) : DictEntry := ⟨hashStr w q.1, .str q.1 q.2.1, .str q.2.2.1 q.2.2.2⟩
abbrev dObj (w : World) (qs : List Row4) (ep : Nat) : Obj := { cls := .type "dict", data := .dict (qs.map (rEnt w)).toArray ep }
def rKv (q : Row4) : Str × Value := (q.1, .str q.2.2.1 q.2.2.2)
def Toks (qs : List Row4) : Prop := ∀ q ∈ qs, q.2.1 ≠ 0 ∧ q.2.2.2 ≠ 0 ∧ q.2.1 ≠ q.2.2.2
def Keys (qs : List Row4) : Prop := (qs.map (·.1)).Nodup

section
variable {prog : Program} {w : World} {A : Around} {E : Value → Shared → Prop} {s : Shared}

theorem pairs_rows : ∀ qs : List Row4, Pairs (PySem.strKind prog w) (qs.map (rEnt w)) (qs.map rKv)
  | [] => .nil
  | q :: r => .cons (strKind_is prog w q.1 q.2.1) rfl (pairs_rows r)
theorem keys_rows (qs : List Row4) : KeysOf (PySem.strKind prog w) (qs.map (rEnt w)).toArray := by
  intro e he
  have he' : e ∈ qs.map (rEnt w) := by rw [← List.mem_toArray]; exact he
  obtain ⟨q, _, rfl⟩ := List.mem_map.mp he'
  exact ⟨q.1, strKind_is prog w q.1 q.2.1, rfl⟩
theorem isDict_rows {qs : List Row4} {ep : Nat} (hn : Keys qs) : (dObj w qs ep).IsDictOf (PySem.strKind prog w) (qs.map rKv) := by
  refine ⟨_, ep, ⟨rfl, rfl, rfl⟩, rfl, keys_rows qs, by simpa using pairs_rows qs, ?_⟩
  rw [List.map_map]; exact hn
theorem dictAt_rows {h : Heap} {d : Addr} {qs : List Row4} {ep : Nat} (hn : Keys qs) (hd : h.get? d = some (dObj w qs ep)) : h.DictAt (PySem.strKind prog w) d (qs.map rKv) ep :=
  ⟨_, _, hd, ⟨rfl, rfl, rfl⟩, rfl, keys_rows qs, by simpa using pairs_rows qs, by rw [List.map_map]; exact hn⟩

/-- the next row of a dict's items, its tokens told -/
theorem next_row {it d : Addr} {i ep : Nat} {qs : List Row4} {q : Row4} {ok ov : Value} {Q : Option Value → Shared → Prop} (hit : IsItemIter s.heap it d i qs.length ep ok ov)
    (hd : s.heap.get? d = some (dObj w qs ep)) (hx : qs[i]? = some q)
    (hQ : ∀ h', IsItemIterOut h' it d (i + 1) qs.length ep (rEnt w q).key (rEnt w q).val s.heap.objs.size →
      h'.get? s.heap.objs.size = some { cls := .type "tuple", data := .seq #[(rEnt w q).key, (rEnt w q).val] } → h'.objs.size = s.heap.objs.size + 1 →
      (∀ b o, b ≠ it → s.heap.get? b = some o → h'.get? b = some o) → Q (some (.ref s.heap.objs.size)) { s with heap := h' }) :
    wpAny (model prog w) A (pyNext (.ref it)) Q E s := by
  obtain ⟨hp, g, dr, tk, os⟩ := s
  have hT : Shared.TypeIs ⟨hp, g, dr, tk, os⟩ (.ref it) "dict_itemiterator" := ⟨_, hit, rfl⟩
  have hlt : i < qs.length := (List.getElem?_eq_some_iff.mp hx).1
  have hsz : (qs.map (rEnt w)).toArray.size = qs.length := by simp
  have hat : (qs.map (rEnt w)).toArray[i]? = some (rEnt w q) := by simp [hx]
  unfold pyNext
  refine wpAny_bind (wpAny_attempt (wpAny_callSpecial?_slot (name := Str.ofString "__next__") hT PySem.F.slot_dict_itemiterator_next
    (wpAny_call_entry PySem.F.slot_dict_itemiterator_next hT PySem.F.entry_dict_itemiterator_next ?_ (PySem.F.args_dict_itemiterator_next_1 _))))
  refine wpAny_bind (wpAny_pure ?_)
  refine wpAny_bind (wpAny_bind ?_)
  first | refine wpAny_bind (wpAny_typeNameOfWhole_itemiter hT (wpAny_pure ?_)) | refine wpAny_bind (wpAny_typeNameOf_itemiter hT (wpAny_pure ?_))
  refine wpAny_bind (wpAny_fieldsOf hit rfl ?_)
  simp only [show Builtin.Dict_items.ownsTuple "dict_itemiterator" = true by decide, if_true]
  show wpAny _ _ (if (Value.ref d == Value.none) = true then _ else _) _ _ _
  rw [if_neg (show ¬ ((Value.ref d == Value.none) = true) from Bool.false_ne_true)]
  refine wpAny_bind (wpAny_pure ?_)
  refine wpAny_bind (wpAny_dictEntries hd rfl ?_)
  rw [if_neg (by rw [hsz]; simp)]
  refine wpAny_bind (wpAny_pure ?_)
  refine wpAny_bind (wpAny_dictEpoch hd rfl ?_)
  rw [if_neg (by simp)]
  refine wpAny_pure ?_
  simp only [show ¬ ((i : Int) < 0) from by omega, if_false, Int.toNat_natCast, hat]
  refine wpAny_bind ?_
  first | refine wpAny_bind (wpAny_typeNameOfWhole_itemiter hT (wpAny_pure ?_)) | refine wpAny_bind (wpAny_typeNameOf_itemiter hT (wpAny_pure ?_))
  refine wpAny_bind (wpAny_isOneOf_itemiter hT ?_)
  show wpAny _ _ (setField (.ref it) 3 (rawInt ((i : Int) + 1)) >>= _) _ _ ⟨hp, g, dr, tk, os⟩
  refine wpAny_bind (wpAny_setField_rec hit (by simp) fun h₁ he₁ hs₁ => ?_)
  replace hs₁ : Heap.SameBut it hp h₁ := hs₁
  have hi1 : IsItemIter h₁ it d (i + 1) qs.length ep ok ov := by
    unfold IsItemIter
    rw [show ((i + 1 : Nat) : Int) = (i : Int) + 1 by omega]; simpa [rawInt] using he₁
  have hT₁ : Shared.TypeIs ⟨h₁, g, dr, tk, os⟩ (.ref it) "dict_itemiterator" := ⟨_, hi1, rfl⟩
  refine wpAny_bind (wpAny_holding ?_)
  refine wpAny_bind (wpAny_isOneOf_itemiter hT₁ ?_)
  refine wpAny_bind (wpAny_isOneOf_itemiter hT₁ ?_)
  show wpAny _ _ (Builtin.Dict_items.pairFromOwner (.ref it) 6 (rEnt w q).key (rEnt w q).val) _ _ ⟨h₁, g, dr, tk, os⟩
  unfold Builtin.Dict_items.pairFromOwner
  refine wpAny_bind (wpAny_newTuple ?_)
  have hi2 : IsItemIter (h₁.push { cls := .type "tuple", data := .seq #[(rEnt w q).key, (rEnt w q).val] }) it d (i + 1) qs.length ep ok ov := Heap.get?_push_of_some _ hi1
  have hil : it < hp.objs.size := Heap.lt_size hit
  have tup : ∀ (h₂ : Heap), h₂ = h₁.push { cls := .type "tuple", data := .seq #[(rEnt w q).key, (rEnt w q).val] } →
      h₂.get? hp.objs.size = some { cls := .type "tuple", data := .seq #[(rEnt w q).key, (rEnt w q).val] } ∧ h₂.objs.size = hp.objs.size + 1 ∧ ∀ b o, b ≠ it → hp.get? b = some o → h₂.get? b = some o := by
    rintro h₂ rfl
    refine ⟨?_, by rw [Heap.size_push, hs₁.1], fun b o hb e => Heap.get?_push_of_some _ (hs₁.extBut b o hb e)⟩
    rw [← hs₁.1]; exact Heap.get?_push_size _ rfl
  have hz1 : h₁.objs.size = hp.objs.size := hs₁.1
  generalize hh : h₁.push { cls := .type "tuple", data := .seq #[(rEnt w q).key, (rEnt w q).val] } = h₂ at hi2 tup
  obtain ⟨ht2, hz2, hk2⟩ := tup h₂ rfl
  show wpAny _ _ (Builtin.Dict_items.ownedTupleIsFree (.ref it) >>= _) _ _ ⟨h₂, g, dr, tk, os⟩
  rw [hz1]
  clear hh tup hi1 he₁ hs₁ hT₁ hz1 h₁
  refine wpAny_bind ?_
  unfold Builtin.Dict_items.ownedTupleIsFree
  refine wpAny_bind (wpAny_field hi2 rfl (x := .none) rfl (wpAny_pure ?_))
  simp only [if_true]
  refine wpAny_bind (wpAny_field hi2 rfl (x := ok) rfl ?_)
  refine wpAny_bind (wpAny_field hi2 rfl (x := ov) rfl ?_)
  refine wpAny_bind (wpAny_setField_rec hi2 (by simp) fun h₃ he₃ hs₃ => ?_)
  replace hs₃ : Heap.SameBut it h₂ h₃ := hs₃
  replace he₃ : IsItemIter h₃ it d (i + 1) qs.length ep (rEnt w q).key ov := he₃
  refine wpAny_bind (wpAny_setField_rec he₃ (by simp) fun h₄ he₄ hs₄ => ?_)
  replace hs₄ : Heap.SameBut it h₃ h₄ := hs₄
  replace he₄ : IsItemIter h₄ it d (i + 1) qs.length ep (rEnt w q).key (rEnt w q).val := he₄
  refine wpAny_bind (wpAny_setField_rec he₄ (by simp) fun h₅ he₅ hs₅ => ?_)
  replace hs₅ : Heap.SameBut it h₄ h₅ := hs₅
  replace he₅ : IsItemIterOut h₅ it d (i + 1) qs.length ep (rEnt w q).key (rEnt w q).val hp.objs.size := he₅
  refine wpAny_bind (wpAny_setField_rec he₅ (by simp) fun h₆ he₆ hs₆ => ?_)
  replace hs₆ : Heap.SameBut it h₅ h₆ := hs₆
  replace he₆ : IsItemIterOut h₆ it d (i + 1) qs.length ep (rEnt w q).key (rEnt w q).val hp.objs.size := he₆
  have all : Heap.SameBut it h₂ h₆ := (((hs₃.trans hs₄).trans hs₅).trans hs₆)
  refine wpAny_bind (wpAny_letGo (wpAny_pure (wpAny_pure ⟨_, rfl, wpAny_pure (hQ h₆ he₆ ?_ ?_ ?_)⟩)))
  · exact all.extBut _ _ (Nat.ne_of_gt hil) ht2
  · show h₆.objs.size = hp.objs.size + 1
    rw [all.1, hz2]
  · exact fun b o hb e => all.extBut b o hb (hk2 b o hb e)
end
section
variable {prog : Program} {w : World} {A : Around} {E : Value → Shared → Prop} {s : Shared}
theorem entry_itemiter_iter : entryFor table "dict_itemiterator.__iter__" = some Builtin.«dict_keyiterator.__iter__» :=
  entryFor_alias (id' := "dict_keyiterator.__iter__") (by kernel_rfl) rfl (by decide +kernel) (by kernel_rfl)
theorem pyIter_itemiter {it d : Addr} {i n ep : Nat} {ok ov : Value} {Q : Value → Shared → Prop} (hit : IsItemIter s.heap it d i n ep ok ov) (h : Q (.ref it) s) : wpAny (model prog w) A (pyIter (.ref it)) Q E s := by
  have hT : s.TypeIs (.ref it) "dict_itemiterator" := ⟨_, hit, rfl⟩
  refine wpAny_pyIter_slot hT PySem.F.slot_dict_itemiterator_iter (wpAny_call_entry PySem.F.slot_dict_itemiterator_iter hT entry_itemiter_iter ?_ (PySem.F.args_dict_itemiterator_iter_1 _))
  show wpAny _ _ (ret (.ref it)) _ _ s
  exact wpAny_pure ⟨_, rfl, "dict_itemiterator", _, hT, PySem.F.slot_dict_itemiterator_next.lookup, h⟩
theorem walks_rows (hh : A.handled = none) (I d : Addr) (hne : d ≠ I) (qs : List Row4) (hn : Keys qs) (ep : Nat) :
    WalksT prog w A I [I, d] [I] qs.length (fun i vals => ∃ q, qs[i]? = some q ∧ vals = #[(rEnt w q).key, (rEnt w q).val])
      (fun i h => ∃ ok ov, IsItemIter h I d i qs.length ep ok ov ∧ h.get? d = some (dObj w qs ep))
      (fun i T h => T ≠ I ∧ ∃ ok ov, IsItemIterOut h I d (i + 1) qs.length ep ok ov T ∧ h.get? d = some (dObj w qs ep)) where
  sub := fun b hb => by simp at hb; simp [hb]
  frame := fun _ _ _ st hk => let ⟨ok, ov, a, b⟩ := st; ⟨ok, ov, hk I (by simp) _ a, hk d (by simp) _ b⟩
  item := fun i s Q E hi st hQ => by
    obtain ⟨ok, ov, a, b⟩ := st
    obtain ⟨q, hx⟩ : ∃ q, qs[i]? = some q := ⟨qs[i], by simp [hi]⟩
    refine next_row a b hx fun h' e1 e2 e3 e4 => ?_
    exact hQ _ _ h' s.toks ⟨q, hx, rfl⟩ (Nat.le_refl _) ⟨_, e2, rfl, _, rfl⟩ ⟨Nat.ne_of_gt (Heap.lt_size a), _, _, e1, e4 d _ hne b⟩ fun b o hb e => e4 b o (fun h => hb (by simp [h])) e
  go := fun elts k pos i T s Q E hm hQ => by
    obtain ⟨_, ok, ov, a, b⟩ := hm
    refine wpAny_letOwnedTupleGo_items a fun h' e1 hs' => ?_
    exact hQ h' ⟨ok, ov, e1, hs'.extBut d _ hne b⟩ fun b o hb e => hs'.extBut b o (fun h => hb (by simp [h])) e
  apart := fun i T h hm => by simp [hm.1]
  done := fun s Q E st hQ => by
    obtain ⟨ok, ov, a, b⟩ := st
    have e : (qs.map rKv).length = qs.length := by simp
    refine wpAny_pyNext_items_end (knd := PySem.strKind prog w) (kvs := qs.map rKv) hh (by rw [e]; exact a) (dictAt_rows hn b) (by simp) fun h' he' => ?_
    exact hQ h' s.toks fun b o hb e => he' b o (fun h => hb (by simp [h])) e
  self := fun i s Q E st hQ => let ⟨_, _, a, _⟩ := st; pyIter_itemiter a hQ
end

section
variable {prog : Program} {w : World} {A : Around} {E : Value → Shared → Prop} {s : Shared} {env : Env} {h₀ : Heap} {xk xv : Str} {body : List Stmt} {Q : Flow → Shared → Prop}
/-- for k, v in d.items(), d a dict of texts of the ledger, its tokens told -/
theorem iter_items (J : Nat → (Str → Option Value) → Prop) {vw d : Addr} {qs : List Row4} {ep : Nat} {news : Led} {m : Str → Option Value}
    (hh : A.handled = none) (F : Fr h₀ env.locals s.heap m) (N : News h₀ env.locals s.heap news) (hvw : s.heap.IsItemsView vw d) (hd : (d, dObj w qs ep) ∈ news) (hn : Keys qs) (h0 : J 0 m)
    (step : ∀ i q m₁ h tk own, qs[i]? = some q → J i m₁ → Fr h₀ env.locals h (fun y => if y = xv then some (.str q.2.2.1 q.2.2.2) else if y = xk then some (.str q.1 q.2.1) else m₁ y) → News h₀ env.locals h (own ++ news) →
      wpAny (model prog w) A (execs body env) (LoopStep3 h₀ env.locals own news (fun m₂ n₂ => n₂ = news ∧ J (i + 1) m₂) { s with heap := h, toks := tk } (fun v s' => Q (.ret v) s') fun s' => Q .next s') E { s with heap := h, toks := tk })
    (done : ∀ h tk m', Fr h₀ env.locals h m' → News h₀ env.locals h news → J qs.length m' → Q .next { s with heap := h, toks := tk }) :
    wpAny (model prog w) A (pyIter (.ref vw)) (fun it s₂ => PairAt3 prog w A h₀ env xk xv body Q E it s₂) E s := by
  have hg := (N _ hd).1
  have hlt : d < s.heap.objs.size := Heap.lt_size hg
  refine wpAny_pyIter_items (knd := PySem.strKind prog w) (d := d) (kvs := qs.map rKv) (ep := ep) hvw (dictAt_rows hn hg) ?_
  have e : (qs.map rKv).length = qs.length := by simp
  rw [e]
  refine ⟨_, _, _, qs.length, _, _, _, fun i v0 v1 => ∃ q, qs[i]? = some q ∧ v0 = (rEnt w q).key ∧ v1 = (rEnt w q).val, m, news, fun i m₁ n₁ => n₁ = news ∧ J i m₁, rfl, walks_rows hh s.heap.objs.size d (Nat.ne_of_lt hlt) qs hn ep,
    ?_, ?_, ?_, ?_, ⟨_, _, Heap.get?_push_size _ rfl, Heap.get?_push_of_some _ hg⟩, F.push _, (fun p hp => ⟨Heap.get?_push_of_some _ (N p hp).1, (N p hp).2⟩), ⟨rfl, h0⟩, ?_, ?_⟩
  · rintro i vals ⟨q, hq, rfl⟩
    exact ⟨_, _, rfl, q, hq, rfl, rfl⟩
  · intro hm
    rcases List.mem_cons.mp hm with e | hm
    · exact Nat.ne_of_lt F.ns.lt e
    · exact not_local N hd (List.mem_singleton.mp hm)
  · intro b hb
    rw [List.mem_singleton.mp hb]; exact next_is_new F
  · intro p hp hI
    exact absurd (Heap.lt_size (N p hp).1) (by rw [List.mem_singleton.mp hI]; exact Nat.lt_irrefl _)
  · rintro i v0 v1 m₁ news₁ s₁ own ⟨h, tk, rfl⟩ _ ⟨q, hq, rfl, rfl⟩ ⟨rfl, hJ⟩ _ _ F₁ N₁
    exact step i q m₁ h tk own hq hJ F₁ N₁
  · rintro h' tk m' news' F' N' _ ⟨rfl, hJ⟩
    exact done h' tk m' F' N' hJ
end
section
variable {prog : Program} {w : World} {A : Around} {E : Value → Shared → Prop} {s : Shared} {env : Env} {h₀ : Heap} {L : Addr} {m : Str → Option Value} {news : Led} {d : Addr} {qs : List Row4} {ep : Nat}
theorem For_pairF {Q : Flow → Shared → Prop} {xi xc : Str} {pk pv pt pos : Pos} {x1 : Nat} {iter : PySem.Expr} {body : List Stmt} (zF : Fr h₀ env.locals s.heap m) (hh : A.handled = none)
    (hxi : env.kindOf xi = some .local) (hxc : env.kindOf xc = some .local)
    (hp : (env.scope.kind == .class || (env.scope.kind == .module && env.locals != env.globals)) = false)
    (h : wpAny (model prog w) A (eval iter env) (fun xv s₁ => wpAny (model prog w) A (pyIter xv) (fun it s₂ => PairAt3 prog w A h₀ env xi xc body Q E it s₂) E s₁) E s)
    (hs : ∀ x, foldedSetIterable iter env x = pure x)
    (hE : PassesOwn (model prog w) A env E) :
    wpAny (model prog w) A (exec (.For (.Tuple [.Name xi pk, .Name xc pv] x1 pt) iter body [] pos) env) Q E s := For_pair3 h₀ hh hxi hxc hp h hs hE
theorem row_method {name : Str} {id : String} {pl : Sem Bool} {Q : Value × List Value → Shared → Prop} (N : News h₀ L s.heap news) (hm : (d, dObj w qs ep) ∈ news) (slot : Slot "dict" name id) (hty : typeOf (.builtin id) = pure (.type "method_descriptor"))
    (h : Q (.builtin id, [.ref d]) s) : wpAny (model prog w) A (getMethod (.ref d) name pl) Q E s :=
  getMethod_builtin ⟨_, (N _ hm).1, rfl⟩ PySem.F.plainAttrs_dict slot hty (fun a e => by cases e; exact ⟨_, (N _ hm).1, rfl⟩) h
theorem row_items {Q : Value → Shared → Prop} (F : Fr h₀ L s.heap m) (N : News h₀ L s.heap news) (hm : (d, dObj w qs ep) ∈ news) (hn : Keys qs) (lo : (d == sysModules) = false)
    (h : ∀ D h', h'.IsItemsView D d → Fr h₀ L h' m → News h₀ L h' news → Q (.ref D) { s with heap := h' }) :
    wpAny (model prog w) A (call (.builtin "dict.items") [.ref d]) Q E s := by
  have hd := (dictAt_rows (prog := prog) hn (N _ hm).1).dictOf
  exact call_meetsIn PySem.F.slot_dict_items hd.typeIs PySem.F.entry_dict_items (PySem.F.args_dict_items_1 _) (meets_dict_items (PySem.strKind prog w) d lo)
    ⟨⟨_, hd⟩, h _ _ ⟨_, Heap.get?_push_size _ rfl, rfl, rfl⟩ (F.push _) (fun p hp => News.push F N _ (by rfl) p (.tail _ hp))⟩
theorem row_truthy {Q : Bool → Shared → Prop} (N : News h₀ L s.heap news) (hm : (d, dObj w qs ep) ∈ news) (hn : Keys qs) (lo : (d == sysModules) = false) (hsz : qs.length ≤ 1000)
    (h : Q (!qs.isEmpty) { s with toks := s.toks + 1 + 1 }) : wpAny (model prog w) A (truthy (.ref d)) Q E s := by
  have hd := (dictAt_rows (prog := prog) hn (N _ hm).1).dictOf
  refine wpAny_truthy_dict lo hd (by rw [List.length_map]; omega) ?_
  have e : (qs.map rKv).isEmpty = qs.isEmpty := by cases qs <;> rfl
  rw [e]; exact h
end
/-- what a row of a table of texts must be for str.replace -/
def RowOk (q : Row4) : Prop := q.2.1 ≠ 0 ∧ q.2.2.2 ≠ 0 ∧ q.2.1 ≠ q.2.2.2 ∧ (q.1 == q.2.2.1) = false ∧ q.2.2.1.length ≤ 5
def RowsOk (qs : List Row4) : Prop := Keys qs ∧ qs.length ≤ 3 ∧ ∀ q ∈ qs, RowOk q
def repAll (x : Str) (qs : List Row4) : Str := qs.foldl (fun s q => Txt.replace s q.1 q.2.2.1) x
theorem repAll_take {qs : List Row4} {i : Nat} {q : Row4} {x : Str} (h : qs[i]? = some q) : repAll x (qs.take (i + 1)) = Txt.replace (repAll x (qs.take i)) q.1 q.2.2.1 := by
  unfold repAll
  rw [List.take_add_one, h, List.foldl_append]; rfl
section
variable {prog : Program} {w : World} {A : Around} {E : Value → Shared → Prop} {s : Shared} {env : Env} {h₀ : Heap} {xk xv : Str} {body : List Stmt} {Q : Flow → Shared → Prop}
inductive RwEnd {σ : Type} (h₀ : Heap) (L : Addr) (xk xv : Str) (mk : σ → Str → Option Value) (I : σ → Prop) (own news : Led) (s₁ s₂ : Shared) : Prop
  | go (h' : Heap) (tk : Nat) (m' : Str → Option Value) (st' : σ) (e : s₂ = { s₁ with heap := h', toks := tk }) (F : Fr h₀ L h' m') (N : News h₀ L h' (own ++ news)) (hm : ∀ z, z ≠ xk → z ≠ xv → m' z = mk st' z) (hI : I st')
def RwPost {σ : Type} (h₀ : Heap) (L : Addr) (xk xv : Str) (mk : σ → Str → Option Value) (I : σ → Prop) (own news : Led) (s₁ : Shared) (Q : Flow → Shared → Prop) (f : Flow) (s₂ : Shared) : Prop :=
  match f with
  | .ret v => Q (.ret v) s₂
  | .brk => Q .next s₂
  | _ => RwEnd h₀ L xk xv mk I own news s₁ s₂
theorem RwEnd.intro {σ : Type} {L : Addr} {mk : σ → Str → Option Value} {I : σ → Prop} {own news : Led} {s₁ : Shared} {h' : Heap} {tk : Nat} {m' : Str → Option Value} (st' : σ)
    (F : Fr h₀ L h' m') (N : News h₀ L h' (own ++ news)) (hm : ∀ z, z ≠ xk → z ≠ xv → m' z = mk st' z) (hI : I st') :
    RwEnd h₀ L xk xv mk I own news s₁ { s₁ with heap := h', toks := tk } := ⟨h', tk, m', st', rfl, F, N, hm, hI⟩
theorem iter_rows {σ : Type} (upd : σ → (Str → Option Value) → Str → Option Value) (I : Nat → σ → Prop) (st₀ : σ) {vw d : Addr} {qs : List Row4} {ep : Nat} {news : Led} {m₀ : Str → Option Value}
    (hh : A.handled = none) (F : Fr h₀ env.locals s.heap m₀) (N : News h₀ env.locals s.heap news) (hvw : s.heap.IsItemsView vw d) (hd : (d, dObj w qs ep) ∈ news) (hn : Keys qs)
    (hm : ∀ z, m₀ z = upd st₀ m₀ z) (hI : I 0 st₀)
    (turn : ∀ i q st h tk own, qs[i]? = some q → I i st →
      Fr h₀ env.locals h (fun z => if z = xv then some (.str q.2.2.1 q.2.2.2) else if z = xk then some (.str q.1 q.2.1) else upd st m₀ z) → News h₀ env.locals h (own ++ news) →
      wpAny (model prog w) A (execs body env) (RwPost h₀ env.locals xk xv (fun st => upd st m₀) (I (i + 1)) own news { s with heap := h, toks := tk } Q) E { s with heap := h, toks := tk })
    (done : ∀ u v st h tk, I qs.length st → Fr h₀ env.locals h (fun z => if z = xk then u else if z = xv then v else upd st m₀ z) → News h₀ env.locals h news → Q .next { s with heap := h, toks := tk }) :
    wpAny (model prog w) A (pyIter (.ref vw)) (fun it s₂ => PairAt3 prog w A h₀ env xk xv body Q E it s₂) E s := by
  refine iter_items (J := fun i m₁ => ∃ st, (∀ z, z ≠ xk → z ≠ xv → m₁ z = upd st m₀ z) ∧ I i st) hh F N hvw hd hn ⟨st₀, fun z _ _ => hm z, hI⟩ ?_ ?_
  · rintro i q m₁ h tk own hq ⟨st, hms, hI'⟩ F₁ N₁
    refine wpAny_mono (turn i q st h tk own hq hI' (fr_congr F₁ fun z => ?_) N₁) (fun f s₂ p => ?_) fun _ _ e => e
    · by_cases h1 : z = xv
      · simp only [if_pos h1]
      · by_cases h2 : z = xk
        · simp only [if_neg h1, if_pos h2]
        · simp only [if_neg h1, if_neg h2]; exact hms z h2 h1
    · have fin : RwEnd h₀ env.locals xk xv (fun st => upd st m₀) (I (i + 1)) own news { s with heap := h, toks := tk } s₂ → ∃ h' tk' m₂ news₂, s₂ = { s with heap := h', toks := tk' } ∧ Fr h₀ env.locals h' m₂ ∧ News h₀ env.locals h' (own ++ news₂) ∧ news₂.map (·.1) = news.map (·.1) ∧ (news₂ = news ∧ ∃ st, (∀ z, z ≠ xk → z ≠ xv → m₂ z = upd st m₀ z) ∧ I (i + 1) st) := by
        rintro ⟨h', tk', m', st', e, F', N', hm', hI''⟩
        exact ⟨h', tk', m', news, e, F', N', rfl, rfl, st', hm', hI''⟩
      cases f with
      | ret v => exact p
      | brk => exact p
      | next => exact ⟨rfl, fin p⟩
      | cont => exact ⟨rfl, fin p⟩
  · rintro h tk m' F' N' ⟨st, hms, hI'⟩
    refine done (m' xk) (m' xv) st h tk hI' (fr_congr F' fun z => ?_) N'
    by_cases h1 : z = xk
    · rw [if_pos h1, h1]
    · by_cases h2 : z = xv
      · rw [if_neg h1, if_pos h2, h2]
      · rw [if_neg h1, if_neg h2]; exact hms z h1 h2
end
theorem RowsOk.keys {qs : List Row4} (h : RowsOk qs) : Keys qs := h.1
theorem rep_len (x y z : Str) : (Txt.replace x y z).length ≤ x.length + (x.length + 1) * z.length := by
  unfold Txt.replace
  split
  · omega
  · have h1 := StrLaws.occ_length_le x y 0 x.length (x.length + 1)
    have hy : (Builtin.Str.glued y (Builtin.Str.partsBetween x (Builtin.Str.occurrences x y 0 x.length (x.length + 1)) y.length)).length = x.length := by rw [StrLaws.glued_between_self]
    rw [size_glued, length_partsBetween, Nat.add_sub_cancel] at hy
    rw [size_glued, length_partsBetween, Nat.add_sub_cancel]
    have h2 : (Builtin.Str.occurrences x y 0 x.length (x.length + 1)).length * z.length ≤ (x.length + 1) * z.length := Nat.mul_le_mul_right _ h1
    omega
theorem rep_len5 {x y z : Str} (h : z.length ≤ 5) : (Txt.replace x y z).length ≤ 6 * x.length + 5 := by
  have h1 := rep_len x y z
  have h2 : (x.length + 1) * z.length ≤ (x.length + 1) * 5 := Nat.mul_le_mul_left _ h
  omega
theorem rep_len1 {x y z : Str} (h : z.length ≤ 1) : (Txt.replace x y z).length ≤ 2 * x.length + 1 := by
  have h1 := rep_len x y z
  have h2 : (x.length + 1) * z.length ≤ (x.length + 1) * 1 := Nat.mul_le_mul_left _ h
  omega
theorem rep_len4 {x y z : Str} (h : z.length ≤ 4) : (Txt.replace x y z).length ≤ 5 * x.length + 4 := by
  have h1 := rep_len x y z
  have h2 : (x.length + 1) * z.length ≤ (x.length + 1) * 4 := Nat.mul_le_mul_left _ h
  omega
theorem repAll_len (qs : List Row4) (hq : ∀ q ∈ qs, RowOk q) : ∀ x : Str, (repAll x qs).length + 1 ≤ 6 ^ qs.length * (x.length + 1) := by
  induction qs with
  | nil => intro x; show x.length + 1 ≤ 1 * _; omega
  | cons q r ih =>
    intro x
    have h1 := ih (fun p hp => hq p (.tail _ hp)) (Txt.replace x q.1 q.2.2.1)
    have h2 := rep_len5 (x := x) (y := q.1) (hq q (.head _)).2.2.2.2
    have h3 : 6 ^ r.length * ((Txt.replace x q.1 q.2.2.1).length + 1) ≤ 6 ^ r.length * (6 * (x.length + 1)) := Nat.mul_le_mul_left _ (by omega)
    have h4 : 6 ^ (q :: r).length * (x.length + 1) = 6 ^ r.length * (6 * (x.length + 1)) := by rw [List.length_cons, Nat.pow_succ, Nat.mul_assoc]
    rw [h4]
    exact Nat.le_trans h1 h3
theorem repAll_take_len {qs : List Row4} {x : Str} {i : Nat} (hq : RowsOk qs) (hi : i < qs.length) (hx : x.length ≤ 16000) : (repAll x (qs.take i)).length ≤ 600000 := by
  have h := repAll_len (qs.take i) (fun q hm => hq.2.2 q (List.mem_of_mem_take hm)) x
  have h2 : (qs.take i).length ≤ 2 := by rw [List.length_take]; have := hq.2.1; omega
  have h3 : 6 ^ (qs.take i).length ≤ 6 ^ 2 := Nat.pow_le_pow_right (by omega) h2
  have h4 : 6 ^ (qs.take i).length * (x.length + 1) ≤ 6 ^ 2 * (x.length + 1) := Nat.mul_le_mul_right _ h3
  omega
theorem feqR {m₀ m' : Str → Option Value} {x y a : Str} {v : Value} (h1 : m' a = some v) (h2 : ∀ z, z ≠ x → z ≠ y → z ≠ a → m' z = m₀ z) : ∀ z, z ≠ x → z ≠ y → m' z = if z = a then some v else m₀ z := fun z hx hy => by
  by_cases e : z = a
  · rw [if_pos e, e, h1]
  · rw [if_neg e]; exact h2 z hx hy e
theorem lt_of_get {α : Type} {l : List α} {i : Nat} {a : α} (h : l[i]? = some a) : i < l.length := by
  rcases Nat.lt_or_ge i l.length with h1 | h1
  · exact h1
  · rw [List.getElem?_eq_none h1] at h; cases h
theorem drep_ok {w : World} {mean : ExcName → Option Value} {mg mb : Str → Option Value} {news : List (Addr × Obj)} (x : Str) (t : Tok) (d : Addr) (qs : List Row4) (ep : Nat) (hm : (d, dObj w qs ep) ∈ news) (hq : RowsOk qs) (lo : (d == sysModules) = false) (hsz : x.length ≤ 16000) :
    Tells w mean mg mb 0 2 24 28 news [.str x t, .ref d] (RStr (repAll x qs)) := by
  w_on
  w_strict (
    refine Tells.of ?_
    unfold Tells0
    k_fill
    intro dp un gd cn cs a ccd cl outer A₀ base h₀ L m s Q E B F X N T hk hd hu htk hret
    refine wpAny_call ?_
    k_dflt cell_enter
    
    repeat' ((fail_if_success (with_reducible show wpAny _ _ (pyIter _) _ _ _)); ((first | ((with_reducible show wpAny _ _ (call (Value.builtin "str.replace") _) _ _ _); (k_here; (try dsimp only [List.cons_append, List.nil_append]); (with_reducible show wpAny _ _ (call (Value.builtin _) [Value.str _ _, Value.str _ _, Value.str _ _]) _ _ _); k_dflt (refine' SC.replaceW ?k1Qz ?k2Qz ?k3Qz ?k4Qz ?k5Qz ?k6Qz ?_; (case k1Qz => first | assumption | omega); (case k2Qz => first | assumption | omega); (case k3Qz => first | assumption | omega); (case k4Qz => first | assumption | decide); (case k5Qz => omega); (case k6Qz => first | omega | decide); k_whole); intro t9 k9)) | ((with_reducible show wpAny _ _ (call (Value.builtin "dict.items") _) _ _ _); (k_here; (try dsimp only [List.cons_append, List.nil_append]); (with_reducible show wpAny _ _ (call (Value.builtin _) [Value.ref _]) _ _ _); k_dflt (refine' row_items ?k1Qz ?k2Qz ?k3Qz ?k4Qz ?k5Qz ?_; (case k1Qz => k_asm); (case k2Qz => k_asm); (case k3Qz => k_mem); (case k4Qz => exact RowsOk.keys (by assumption)); (case k5Qz => assumption); k_whole); intro D9 h9 v9 F9 N9)) | ((with_reducible show wpAny _ _ (getMethod (Value.ref _) _ _) _ _ _); (k_here; (with_reducible show wpAny _ _ (getMethod (Value.ref _) "items" _) _ _ _); k_dflt (refine' row_method ?k1Qz ?k2Qz PySem.F.slot_dict_items PySem.F.type_dict_items ?_; (case k1Qz => k_asm); (case k2Qz => k_mem); k_whole))) | ((with_reducible show wpAny _ _ (exec (PySem.Stmt.For (PySem.Expr.Tuple _ _ _) (PySem.Expr.Call _ _ _ _) _ _ _) _) _ _ _); (k_here; (rename Fr _ _ _ _ => lF'); (with_unfolding_all refine' For_pairF lF' ?k1Qz ?k2Qz ?k3Qz ?k4Qz ?_ ?k5Qz ?k6Qz; (case k1Qz => exact rfl); (case k2Qz => exact rfl); (case k3Qz => exact rfl); (case k4Qz => exact rfl); (case k5Qz => (intro _; rfl)); (case k6Qz => passes_own); k_whole))) | walk1) <;> (try dsimp only)))
    rename Heap.IsItemsView _ _ _ => hv9
    rename News _ _ _ _ => N1
    rename Fr _ _ _ _ => F1
    refine iter_rows (σ := Str × Tok) (fun st m z => if z = Str.ofString "s" then some (.str st.1 st.2) else m z) (fun i st => st.1 = repAll x (qs.take i)) (x, t) rfl F1 N1 hv9 hm hq.1 (upd1 rfl) rfl ?_ ?_
    · rintro i ⟨k, tk0, v, tv⟩ ⟨y, ty⟩ h tk own hqi hy F2 N2
      clear N1 F1
      dsimp only at F2 N2 hy ⊢
      have hi := lt_of_get hqi
      have hyl := repAll_take_len hq hi hsz
      rw [← hy] at hyl
      obtain ⟨q1, q2, q3, q4, q5⟩ := hq.2.2 _ (List.mem_of_getElem? hqi)
      dsimp only at q1 q2 q3 q4 q5
      (with_reducible show wpAny _ _ _ _ _ _)
      k_fold
      repeat' ((fail_if_success (with_reducible show wpAny _ _ (pyIter _) _ _ _)); ((first | ((with_reducible show wpAny _ _ (call (Value.builtin "str.replace") _) _ _ _); (k_here; (try dsimp only [List.cons_append, List.nil_append]); (with_reducible show wpAny _ _ (call (Value.builtin _) [Value.str _ _, Value.str _ _, Value.str _ _]) _ _ _); k_dflt (refine' SC.replaceW ?k1Qz ?k2Qz ?k3Qz ?k4Qz ?k5Qz ?k6Qz ?_; (case k1Qz => first | assumption | omega); (case k2Qz => first | assumption | omega); (case k3Qz => first | assumption | omega); (case k4Qz => first | assumption | decide); (case k5Qz => omega); (case k6Qz => first | omega | decide); k_whole); intro t9 k9)) | ((with_reducible show wpAny _ _ (call (Value.builtin "dict.items") _) _ _ _); (k_here; (try dsimp only [List.cons_append, List.nil_append]); (with_reducible show wpAny _ _ (call (Value.builtin _) [Value.ref _]) _ _ _); k_dflt (refine' row_items ?k1Qz ?k2Qz ?k3Qz ?k4Qz ?k5Qz ?_; (case k1Qz => k_asm); (case k2Qz => k_asm); (case k3Qz => k_mem); (case k4Qz => exact RowsOk.keys (by assumption)); (case k5Qz => assumption); k_whole); intro D9 h9 v9 F9 N9)) | ((with_reducible show wpAny _ _ (getMethod (Value.ref _) _ _) _ _ _); (k_here; (with_reducible show wpAny _ _ (getMethod (Value.ref _) "items" _) _ _ _); k_dflt (refine' row_method ?k1Qz ?k2Qz PySem.F.slot_dict_items PySem.F.type_dict_items ?_; (case k1Qz => k_asm); (case k2Qz => k_mem); k_whole))) | ((with_reducible show wpAny _ _ (exec (PySem.Stmt.For (PySem.Expr.Tuple _ _ _) (PySem.Expr.Call _ _ _ _) _ _ _) _) _ _ _); (k_here; (rename Fr _ _ _ _ => lF'); (with_unfolding_all refine' For_pairF lF' ?k1Qz ?k2Qz ?k3Qz ?k4Qz ?_ ?k5Qz ?k6Qz; (case k1Qz => exact rfl); (case k2Qz => exact rfl); (case k3Qz => exact rfl); (case k4Qz => exact rfl); (case k5Qz => (intro _; rfl)); (case k6Qz => passes_own); k_whole))) | walk1) <;> (try dsimp only)))
      all_goals (k_unfold; dsimp only [RwPost]; rename Fr _ _ _ _ => F9; rename News _ _ _ _ => N9)
      refine' RwEnd.intro (Txt.replace y k v, _) F9 N9 (feqR rfl (fun z hz1 hz2 ha => by simp only [if_neg hz1, if_neg hz2, if_neg ha])) ?_
      show _ = _
      rw [repAll_take hqi, ← hy]
    · rintro u v ⟨y, ty⟩ h tk hy F2 N2
      clear N1 F1
      dsimp only at hy F2 N2 ⊢
      rw [List.take_length] at hy
      repeat' ((fail_if_success (with_reducible show wpAny _ _ (pyIter _) _ _ _)); ((first | ((with_reducible show wpAny _ _ (call (Value.builtin "str.replace") _) _ _ _); (k_here; (try dsimp only [List.cons_append, List.nil_append]); (with_reducible show wpAny _ _ (call (Value.builtin _) [Value.str _ _, Value.str _ _, Value.str _ _]) _ _ _); k_dflt (refine' SC.replaceW ?k1Qz ?k2Qz ?k3Qz ?k4Qz ?k5Qz ?k6Qz ?_; (case k1Qz => first | assumption | omega); (case k2Qz => first | assumption | omega); (case k3Qz => first | assumption | omega); (case k4Qz => first | assumption | decide); (case k5Qz => omega); (case k6Qz => first | omega | decide); k_whole); intro t9 k9)) | ((with_reducible show wpAny _ _ (call (Value.builtin "dict.items") _) _ _ _); (k_here; (try dsimp only [List.cons_append, List.nil_append]); (with_reducible show wpAny _ _ (call (Value.builtin _) [Value.ref _]) _ _ _); k_dflt (refine' row_items ?k1Qz ?k2Qz ?k3Qz ?k4Qz ?k5Qz ?_; (case k1Qz => k_asm); (case k2Qz => k_asm); (case k3Qz => k_mem); (case k4Qz => exact RowsOk.keys (by assumption)); (case k5Qz => assumption); k_whole); intro D9 h9 v9 F9 N9)) | ((with_reducible show wpAny _ _ (getMethod (Value.ref _) _ _) _ _ _); (k_here; (with_reducible show wpAny _ _ (getMethod (Value.ref _) "items" _) _ _ _); k_dflt (refine' row_method ?k1Qz ?k2Qz PySem.F.slot_dict_items PySem.F.type_dict_items ?_; (case k1Qz => k_asm); (case k2Qz => k_mem); k_whole))) | ((with_reducible show wpAny _ _ (exec (PySem.Stmt.For (PySem.Expr.Tuple _ _ _) (PySem.Expr.Call _ _ _ _) _ _ _) _) _ _ _); (k_here; (rename Fr _ _ _ _ => lF'); (with_unfolding_all refine' For_pairF lF' ?k1Qz ?k2Qz ?k3Qz ?k4Qz ?_ ?k5Qz ?k6Qz; (case k1Qz => exact rfl); (case k2Qz => exact rfl); (case k3Qz => exact rfl); (case k4Qz => exact rfl); (case k5Qz => (intro _; rfl)); (case k6Qz => passes_own); k_whole))) | walk1) <;> (try dsimp only)))
      rename News h₀ _ _ _ => N9
      exact hret _ [] _ _ (by k_asm) N9 (RStr.of hy))
theorem tok_ne0 {n : Nat} (h : 1 ≤ n) : @Ne Tok n (0 : Tok) := Nat.ne_of_gt h
theorem tok_ne1 {n : Nat} : @Ne Tok n (n + 1 : Nat) := Nat.ne_of_lt (Nat.lt_succ_self _)
theorem RowsOk.small {qs : List Row4} (h : RowsOk qs) : qs.length ≤ 1000 := Nat.le_trans h.2.1 (by decide)
theorem replaceM {prog : Program} {w : World} {A : Around} {E : Value → Shared → Prop} {s : Shared} {x y z : Str} {t u v : Tok} {Q : Value → Shared → Prop}
    (hs : 1 ≤ s.toks) (hu : u ≠ 0) (hv : v ≠ 0) (huv : u ≠ v) (hyz : (y == z) = false) (hx : x.length ≤ 1048576) (hz : z.length ≤ 14)
    (hq : ∀ t' k, 1 ≤ k → Q (.str (Txt.replace x y z) t') { s with toks := k }) : wpAny (model prog w) A (call (.builtin "str.replace") [.str x t, .str y u, .str z v]) Q E s :=
  wpAny_with_toks hs (SC.replaceW hu hv huv hyz hx hz fun t' k hk => hq t' k hk)
abbrev sAmp : Str := Str.ofString "&"
abbrev sGt : Str := Str.ofString ">"
abbrev sLt : Str := Str.ofString "<"
abbrev eAmp : Str := Str.ofString "&amp;"
abbrev eGt : Str := Str.ofString "&gt;"
abbrev eLt : Str := Str.ofString "&lt;"
def esc3 (x : Str) : Str := Txt.replace (Txt.replace (Txt.replace x (Str.ofString "&") (Str.ofString "&amp;")) (Str.ofString ">") (Str.ofString "&gt;")) (Str.ofString "<") (Str.ofString "&lt;")
def escT (x : Str) (qs : List Row4) : Str := repAll (esc3 x) qs
def une2 (x : Str) : Str := Txt.replace (Txt.replace x (Str.ofString "&lt;") (Str.ofString "<")) (Str.ofString "&gt;") (Str.ofString ">")
def unescT (x : Str) (qs : List Row4) : Str := Txt.replace (repAll (une2 x) qs) (Str.ofString "&amp;") (Str.ofString "&")
theorem escT_nil (x : Str) {qs : List Row4} (h : qs.isEmpty = true) : escT x qs = esc3 x := by
  rw [List.isEmpty_iff.mp h]; rfl
theorem unescT_nil (x : Str) {qs : List Row4} (h : qs.isEmpty = true) : unescT x qs = Txt.replace (une2 x) (Str.ofString "&amp;") (Str.ofString "&") := by
  rw [List.isEmpty_iff.mp h]; rfl
theorem emp_of {b : Bool} (h : b = false) : (!b) = true := by rw [h]; rfl
theorem repAll_len3 {qs : List Row4} (hq : RowsOk qs) (x : Str) : (repAll x qs).length ≤ 216 * x.length + 215 := by
  have h := repAll_len qs hq.2.2 x
  have h3 : 6 ^ qs.length ≤ 6 ^ 3 := Nat.pow_le_pow_right (by omega) hq.2.1
  have h4 : 6 ^ qs.length * (x.length + 1) ≤ 6 ^ 3 * (x.length + 1) := Nat.mul_le_mul_right _ h3
  omega
theorem escape_ok {w : World} {mean : ExcName → Option Value} {mg mb : Str → Option Value} {news : List (Addr × Obj)} (x : Str) (t : Tok) (d : Addr) (qs : List Row4) (ep : Nat) (hm : (d, dObj w qs ep) ∈ news) (hq : RowsOk qs) (lo : (d == sysModules) = false) (hsz : x.length ≤ 100) :
    Tells w mean mg mb 0 3 48 37 news [.str x t, .ref d] (RStr (escT x qs)) := by
  w_on
  w_strict (
    refine Tells.of ?_
    unfold Tells0
    k_fill
    intro dp un gd cn cs a ccd cl outer A₀ base h₀ L m s Q E B F X N T hk hd hu htk hret
    refine wpAny_call ?_
    k_dflt (refine' code_def ?k1 ?k2 ?k3 ?k4 ?k5 ?kA ?kF ?kK ?k6 ?k7 ?k8 ?k9 ?kB ?_ ?c2 ?c3 ?c4 ?c5; (case kA => exact rfl); (case kF => exact rfl); (case kK => assumption); (case k1 => k_asm); (case k2 => k_asm); (case k3 => k_asm); (case k4 => k_asm); (case k5 => k_asm); (case k6 => k_is); (case k7 => k_is); (case k8 => ktr_room); (case k9 => first | exact BindsTo.of_eq rfl | exact binds_K (by k_in) rfl (by k_is) rfl rfl rfl | (refine' kp_binds ?kx ?ke; (case kx => k_in); (case ke => exact fun _ => rfl))); (case c5 => decide); (case kB => exact locs rfl); (case c2 => exact rfl); (case c3 => exact rfl); (case c4 => exact rfl); k_whole; intro g' L' h' FG' F' N' B' X' T'; (try dsimp only); (try k_fold))
    have e1 := rep_len5 (x := x) (y := Str.ofString "&") (z := Str.ofString "&amp;") (by decide)
    have e2 := rep_len4 (x := Txt.replace x (Str.ofString "&") (Str.ofString "&amp;")) (y := Str.ofString ">") (z := Str.ofString "&gt;") (by decide)
    have e3 := rep_len4 (x := Txt.replace (Txt.replace x (Str.ofString "&") (Str.ofString "&amp;")) (Str.ofString ">") (Str.ofString "&gt;")) (y := Str.ofString "<") (z := Str.ofString "&lt;") (by decide)
    repeat' ((fail_if_success (with_reducible show wpAny _ _ (pyIter _) _ _ _)); ((first | ((with_reducible show wpAny _ _ (call (Value.builtin "str.replace") _) _ _ _); (k_here; (try dsimp only [List.cons_append, List.nil_append]); (with_reducible show wpAny _ _ (call (Value.builtin _) [Value.str _ _, Value.str _ _, Value.str _ _]) _ _ _); k_dflt (refine' replaceM ?k0Qz ?k1Qz ?k2Qz ?k3Qz ?k4Qz ?k5Qz ?k6Qz ?_; (case k0Qz => ((try dsimp only); (try simp only [List.length_cons, List.length_nil]); omega)); (case k1Qz => first | assumption | exact tok_ne0 (by (try dsimp only); omega)); (case k2Qz => first | assumption | exact tok_ne0 (by (try dsimp only); omega)); (case k3Qz => first | assumption | exact tok_ne1); (case k4Qz => first | assumption | decide); (case k5Qz => omega); (case k6Qz => first | omega | decide); k_whole); intro t9 k9 hk9)) | ((with_reducible show wpAny _ _ (truthy (Value.ref _)) _ _ _); (k_here; k_dflt (refine' row_truthy ?k1Qz ?k2Qz ?k3Qz ?k4Qz ?k5Qz ?_; (case k1Qz => k_asm); (case k2Qz => k_mem); (case k3Qz => exact RowsOk.keys (by assumption)); (case k4Qz => assumption); (case k5Qz => exact RowsOk.small (by assumption)); k_whole))) | ((with_reducible show wpAny _ _ (execs [] _) _ _ _); (k_here; (with_reducible refine wpAny_execs_nil ?_); (try dsimp only))) | ((with_reducible show wpAny _ _ (execs (_ :: _) _) _ _ _); (k_here; (with_reducible refine wpAny_execs_cons ?_); (try dsimp only))) | ((with_reducible show wpAny _ _ (call (Value.ref 28) _) _ _ _); (k_here; k_dflt (refine' Tells.useS ?k1Qz ?k2Qz ?k3Qz ?k4Qz ?k5Qz ?k6Qz ?kcQz ?k7Qz ?k8Qz ?k9Qz ?_; (case k1Qz => k_asm); (case k2Qz => k_asm); (case k3Qz => k_asm); (case k4Qz => k_asm); (case k5Qz => k_asm); (case kcQz => exact drep_ok _ _ _ _ _ (by k_mem) (by assumption) (by assumption) (by omega)); (case k6Qz => first | exact rfl | assumption); (case k7Qz => ktr_room); (case k8Qz => ktr_units); (case k9Qz => first | exact Nat.zero_le _ | ((try dsimp only); omega)); k_whole; intro t9 h9 tk9 F9 N9 htk9))) | walk1) <;> (try dsimp only)))
    all_goals (rename News h₀ _ _ _ => N9; refine hret _ [] _ _ (by k_asm) N9 (RStr.of ?_); first | exact (escT_nil _ (by assumption)).symm | rfl))
theorem unescape_ok {w : World} {mean : ExcName → Option Value} {mg mb : Str → Option Value} {news : List (Addr × Obj)} (x : Str) (t : Tok) (d : Addr) (qs : List Row4) (ep : Nat) (hm : (d, dObj w qs ep) ∈ news) (hq : RowsOk qs) (lo : (d == sysModules) = false) (hsz : x.length ≤ 1000) :
    Tells w mean mg mb 1 3 48 46 news [.str x t, .ref d] (RStr (unescT x qs)) := by
  w_on
  w_strict (
    refine Tells.of ?_
    unfold Tells0
    k_fill
    intro dp un gd cn cs a ccd cl outer A₀ base h₀ L m s Q E B F X N T hk hd hu htk hret
    refine wpAny_call ?_
    k_dflt (refine' code_def ?k1 ?k2 ?k3 ?k4 ?k5 ?kA ?kF ?kK ?k6 ?k7 ?k8 ?k9 ?kB ?_ ?c2 ?c3 ?c4 ?c5; (case kA => exact rfl); (case kF => exact rfl); (case kK => assumption); (case k1 => k_asm); (case k2 => k_asm); (case k3 => k_asm); (case k4 => k_asm); (case k5 => k_asm); (case k6 => k_is); (case k7 => k_is); (case k8 => ktr_room); (case k9 => first | exact BindsTo.of_eq rfl | exact binds_K (by k_in) rfl (by k_is) rfl rfl rfl | (refine' kp_binds ?kx ?ke; (case kx => k_in); (case ke => exact fun _ => rfl))); (case c5 => decide); (case kB => exact locs rfl); (case c2 => exact rfl); (case c3 => exact rfl); (case c4 => exact rfl); k_whole; intro g' L' h' FG' F' N' B' X' T'; (try dsimp only); (try k_fold))
    have e1 := rep_len1 (x := x) (y := Str.ofString "&lt;") (z := Str.ofString "<") (by decide)
    have e2 := rep_len1 (x := Txt.replace x (Str.ofString "&lt;") (Str.ofString "<")) (y := Str.ofString "&gt;") (z := Str.ofString ">") (by decide)
    have e3 := repAll_len3 hq (Txt.replace (Txt.replace x (Str.ofString "&lt;") (Str.ofString "<")) (Str.ofString "&gt;") (Str.ofString ">"))
    repeat' ((fail_if_success (with_reducible show wpAny _ _ (pyIter _) _ _ _)); ((first | ((with_reducible show wpAny _ _ (call (Value.builtin "str.replace") _) _ _ _); (k_here; (try dsimp only [List.cons_append, List.nil_append]); (with_reducible show wpAny _ _ (call (Value.builtin _) [Value.str _ _, Value.str _ _, Value.str _ _]) _ _ _); k_dflt (refine' replaceM ?k0Qz ?k1Qz ?k2Qz ?k3Qz ?k4Qz ?k5Qz ?k6Qz ?_; (case k0Qz => ((try dsimp only); (try simp only [List.length_cons, List.length_nil]); omega)); (case k1Qz => first | assumption | exact tok_ne0 (by (try dsimp only); omega)); (case k2Qz => first | assumption | exact tok_ne0 (by (try dsimp only); omega)); (case k3Qz => first | assumption | exact tok_ne1); (case k4Qz => first | assumption | decide); (case k5Qz => omega); (case k6Qz => first | omega | decide); k_whole); intro t9 k9 hk9)) | ((with_reducible show wpAny _ _ (truthy (Value.ref _)) _ _ _); (k_here; k_dflt (refine' row_truthy ?k1Qz ?k2Qz ?k3Qz ?k4Qz ?k5Qz ?_; (case k1Qz => k_asm); (case k2Qz => k_mem); (case k3Qz => exact RowsOk.keys (by assumption)); (case k4Qz => assumption); (case k5Qz => exact RowsOk.small (by assumption)); k_whole))) | ((with_reducible show wpAny _ _ (execs [] _) _ _ _); (k_here; (with_reducible refine wpAny_execs_nil ?_); (try dsimp only))) | ((with_reducible show wpAny _ _ (execs (_ :: _) _) _ _ _); (k_here; (with_reducible refine wpAny_execs_cons ?_); (try dsimp only))) | ((with_reducible show wpAny _ _ (call (Value.ref 28) _) _ _ _); (k_here; k_dflt (refine' Tells.useS ?k1Qz ?k2Qz ?k3Qz ?k4Qz ?k5Qz ?k6Qz ?kcQz ?k7Qz ?k8Qz ?k9Qz ?_; (case k1Qz => k_asm); (case k2Qz => k_asm); (case k3Qz => k_asm); (case k4Qz => k_asm); (case k5Qz => k_asm); (case kcQz => exact drep_ok _ _ _ _ _ (by k_mem) (by assumption) (by assumption) (by omega)); (case k6Qz => first | exact rfl | assumption); (case k7Qz => ktr_room); (case k8Qz => ktr_units); (case k9Qz => first | exact Nat.zero_le _ | ((try dsimp only); omega)); k_whole; intro t9 h9 tk9 F9 N9 htk9))) | walk1) <;> (try dsimp only)))
    all_goals (rename News h₀ _ _ _ => N9; refine hret _ [] _ _ (by k_asm) N9 (RStr.of ?_); first | exact (unescT_nil _ (by assumption)).symm | rfl))
abbrev cl (x : Str) : List Nat := x.cps.toList
theorem cl_inj {a b : Str} (h : cl a = cl b) : a = b := Str.ext' (Array.toList_inj.mp h)
theorem cl_beq (a b : Str) : (a == b) = (cl a == cl b) := by
  rw [Bool.eq_iff_iff, beq_iff_eq, beq_iff_eq]; exact ⟨fun h => by rw [h], cl_inj⟩
theorem cl_bne (a b : Str) : (a != b) = (cl a != cl b) := by unfold bne; rw [cl_beq]
theorem cl_len (x : Str) : (cl x).length = x.length := by simp [Str.length]
theorem cl_app (a b : Str) : cl (a ++ b) = cl a ++ cl b := by show (a.cps ++ b.cps).toList = _; simp
theorem sl_eq : Str.ofString "/" = ⟨#[47]⟩ := by decide
theorem cl_sl : cl (Str.ofString "/") = [47] := by decide
theorem cl_emp : cl (Str.ofString "") = [] := by decide
def sep (c : Nat) : Bool := c == 47
def lHead0 (l : List Nat) : List Nat := (l.reverse.dropWhile fun c => !sep c).reverse
def lTail (l : List Nat) : List Nat := (l.reverse.takeWhile fun c => !sep c).reverse
def lRs (l : List Nat) : List Nat := (l.reverse.dropWhile sep).reverse
def lHead (l : List Nat) : List Nat := if (lHead0 l).all sep = true then lHead0 l else lRs (lHead0 l)
theorem head0_tail (l : List Nat) : lHead0 l ++ lTail l = l := by
  unfold lHead0 lTail
  rw [← List.reverse_append, List.takeWhile_append_dropWhile, List.reverse_reverse]
theorem dropWhile_free {α : Type} (p : α → Bool) : ∀ (a b : List α), (∀ x ∈ a, p x = true) → (a ++ b).dropWhile p = b.dropWhile p
  | [], b, _ => rfl
  | x :: r, b, h => by
    rw [List.cons_append, List.dropWhile_cons, if_pos (h x (.head _))]
    exact dropWhile_free p r b fun y hy => h y (.tail _ hy)
theorem head0_of {a b : List Nat} (hb : 47 ∉ b) : lHead0 (a ++ 47 :: b) = a ++ [47] := by
  unfold lHead0
  have e : (a ++ 47 :: b).reverse = b.reverse ++ (47 :: a.reverse) := by simp
  rw [e, dropWhile_free _ _ _ (fun x hx => ?_)]
  · rw [List.dropWhile_cons, if_neg (by decide)]; simp
  · have : x ∈ b := by simpa using hx
    have hne : x ≠ 47 := fun e => hb (e ▸ this)
    simp [sep, hne]
theorem head0_none {l : List Nat} (h : 47 ∉ l) : lHead0 l = [] := by
  unfold lHead0
  have := dropWhile_free (fun c => !sep c) l.reverse [] (fun x hx => by
    have : x ∈ l := by simpa using hx
    have hne : x ≠ 47 := fun e => h (e ▸ this)
    simp [sep, hne])
  rw [List.append_nil] at this
  rw [this]; rfl
theorem spI_eq (x : Str) : spI x = ((lHead0 (cl x)).length : Int) := by
  unfold spI
  rw [sl_eq]
  rcases rfind_whole x ⟨#[47]⟩ with ⟨e, h⟩ | ⟨i, e, h, hk⟩
  · rw [e, head0_none]
    · rfl
    · intro hm
      obtain ⟨i, hi⟩ := List.mem_iff_getElem?.mp hm
      exact h i ((StrLaws.subAt_one x 47 i).mpr hi)
  · have hi := (StrLaws.subAt_one x 47 i).mp h
    obtain ⟨hlt, hv⟩ := List.getElem?_eq_some_iff.mp hi
    have hs : cl x = (cl x).take i ++ 47 :: (cl x).drop (i + 1) := by
      conv => lhs; rw [← List.take_append_drop i (cl x), List.drop_eq_getElem_cons hlt, hv]
    have hn : 47 ∉ (cl x).drop (i + 1) := by
      intro hm
      obtain ⟨k, hk'⟩ := List.mem_iff_getElem?.mp hm
      rw [List.getElem?_drop] at hk'
      exact hk (i + 1 + k) (by omega) ((StrLaws.subAt_one x 47 _).mpr hk')
    rw [e, hs, head0_of hn, List.length_append, List.length_take_of_le (Nat.le_of_lt hlt)]
    simp
theorem cl_slice_to {x : Str} {n : Nat} (h : n ≤ x.length) : cl (Txt.slice x none (some (n : Int))) = (cl x).take n := by
  have := slice_closes_toL (x := x) (j := (n : Int)) (by omega) (by omega)
  rw [cl_beq] at this
  have e := eq_of_beq this
  rw [e]; simp
theorem cl_slice_from {x : Str} {n : Nat} (h : n ≤ x.length) : cl (Txt.slice x (some (n : Int)) none) = (cl x).drop n := by
  rw [slice_from_eq (b := (x.length : Int)) (by omega) (by omega) rfl]
  show ((_ : List Nat).toArray).toList = _
  rw [List.toList_toArray, List.take_of_length_le]
  · simp
  · rw [List.length_drop, cl_len]; omega
theorem head0_len (l : List Nat) : (lHead0 l).length ≤ l.length := by
  have h := congrArg List.length (head0_tail l)
  rw [List.length_append] at h; omega
theorem cl_spHead0 (x : Str) : cl (spHead0 x) = lHead0 (cl x) := by
  unfold spHead0
  rw [spI_eq, cl_slice_to (by have := head0_len (cl x); rw [cl_len] at this; exact this)]
  conv => lhs; rw [← head0_tail (cl x)]
  rw [List.take_left']
  rw [head0_tail]
theorem cl_spTail (x : Str) : cl (spTail x) = lTail (cl x) := by
  unfold spTail
  rw [spI_eq, cl_slice_from (by have := head0_len (cl x); rw [cl_len] at this; exact this)]
  conv => lhs; rw [← head0_tail (cl x)]
  rw [List.drop_left']
  rw [head0_tail]
theorem cl_mul (n : Nat) : cl (Txt.mul (Str.ofString "/") (n : Int)) = List.replicate n 47 := by
  rw [sl_eq, cl, mul_one_list]; rfl
theorem all_sep (l : List Nat) : l.all sep = (l == List.replicate l.length 47) := by
  induction l with
  | nil => rfl
  | cons a r ih =>
    rw [List.all_cons, ih, List.length_cons, List.replicate_succ]
    by_cases h : a = 47
    · subst h; simp [sep]
    · simp [sep, h]
theorem bne_mul (x : Str) : (x != Txt.mul (Str.ofString "/") (x.length : Int)) = !(cl x).all sep := by
  rw [cl_bne, cl_mul, all_sep, cl_len]; rfl
theorem len_takeWhile_add {α : Type} (p : α → Bool) (l : List α) : (l.takeWhile p).length + (l.dropWhile p).length = l.length := by
  rw [← List.length_append, List.takeWhile_append_dropWhile]
theorem cl_rstrip (x : Str) : cl (Txt.rstripChars x (Str.ofString "/")) = lRs (cl x) := by
  unfold Txt.rstripChars
  rw [PyProof.Rows.stripBy_eq]
  have e1 : stripLo (Str.ofString "/").cps.contains false x = 0 := rfl
  rw [e1, cl, StrLaws.strSub_toList]
  have ep : ((Str.ofString "/").cps.contains : Nat → Bool) = sep := by
    funext c
    rw [sl_eq]
    simp [sep]
    rw [Bool.eq_iff_iff]; simp
  rw [ep]
  have e2 : stripHi sep true x 0 = x.length - ((cl x).reverse.takeWhile sep).length := rfl
  rw [e2, List.drop_zero, Nat.sub_zero]
  have h := len_takeWhile_add sep (cl x).reverse
  rw [List.length_reverse, cl_len] at h
  have e3 : x.length - ((cl x).reverse.takeWhile sep).length = (lRs (cl x)).length := by
    unfold lRs; rw [List.length_reverse]; omega
  rw [e3]
  have e4 : cl x = lRs (cl x) ++ ((cl x).reverse.takeWhile sep).reverse := by
    unfold lRs
    rw [← List.reverse_append, List.takeWhile_append_dropWhile, List.reverse_reverse]
  show (cl x).take _ = _
  conv => lhs; arg 2; rw [e4]
  rw [List.take_left']
  rfl
theorem cl_spHead (x : Str) : cl (spHead x) = lHead (cl x) := by
  unfold spHead lHead
  rw [bne_mul, cl_spHead0]
  by_cases h : (lHead0 (cl x)).all sep = true
  · rw [if_neg (by rw [h]; simp), if_pos h, cl_spHead0]
  · have hne : (spHead0 x).length ≠ 0 := by
      intro e
      rw [← cl_len, cl_spHead0] at e
      rw [List.length_eq_zero_iff.mp e] at h
      exact h rfl
    rw [if_neg h, if_pos ⟨hne, by simpa using h⟩, cl_rstrip, cl_spHead0]
theorem lHead_lt {l : List Nat} (h : (lHead l).all sep = false) : (lHead l).length < l.length := by
  unfold lHead at h ⊢
  by_cases h1 : (lHead0 l).all sep = true
  · rw [if_pos h1] at h; rw [h1] at h; cases h
  · rw [if_neg h1] at h ⊢
    have h2 := head0_len l
    refine Nat.lt_of_lt_of_le ?_ h2
    unfold lRs
    rw [List.length_reverse]
    have h3 : (lHead0 l).reverse = (l.reverse.dropWhile fun c => !sep c) := by unfold lHead0; rw [List.reverse_reverse]
    rw [h3]
    have h4 : (lHead0 l).length = (l.reverse.dropWhile fun c => !sep c).length := by rw [← h3, List.length_reverse]
    rw [h4]
    cases hd : l.reverse.dropWhile fun c => !sep c with
    | nil => rw [hd] at h4; rw [List.length_eq_zero_iff.mp h4] at h1; exact absurd rfl h1
    | cons a r =>
      have h5 : (!sep a) = false := by
        have := List.head?_dropWhile_not (fun c => !sep c) l.reverse
        rw [hd] at this
        simpa using this
      rw [List.dropWhile_cons, if_pos (by simpa using h5)]
      have := len_takeWhile_add sep r
      rw [List.length_cons]; omega
theorem spHead_lt {x : Str} (h : (spHead x != Txt.mul (Str.ofString "/") ((spHead x).length : Int)) = true) : (spHead x).length < x.length := by
  rw [bne_mul, cl_spHead] at h
  rw [← cl_len (spHead x), ← cl_len x, cl_spHead]
  exact lHead_lt (by simpa using h)
section
variable {prog : Program} {w : World} {A : Around} {E : Value → Shared → Prop} {Q : Flow → Shared → Prop} {s : Shared} {env : Env} {h₀ : Heap} {L : Addr}
/-- a while turn's end -/
inductive WhEnd {σ : Type} (h₀ : Heap) (L : Addr) (x y : Str) (mk : σ → Str → Option Value) (led : σ → Led) (I : Nat → σ → Prop) (n : Nat) (s₁ s₂ : Shared) : Prop
  | go (h' : Heap) (tk : Nat) (m' : Str → Option Value) (news' : Led) (st' : σ) (n' : Nat) (e : s₂ = { s₁ with heap := h', toks := tk }) (F : Fr h₀ L h' m') (N : News h₀ L h' news') (hn : ∀ p ∈ led st', p ∈ news') (hm : ∀ z, z ≠ x → z ≠ y → m' z = mk st' z) (hl : n' < n) (hI : I n' st')
inductive WInv {σ : Type} (h₀ : Heap) (L : Addr) (x y : Str) (m₀ : Str → Option Value) (upd : σ → (Str → Option Value) → Str → Option Value) (led : σ → Led) (I : Nat → σ → Prop) (s : Shared) (n : Nat) (s' : Shared) : Prop
  | go (h₁ : Heap) (tk₁ : Nat) (m₁ : Str → Option Value) (news₁ : Led) (st : σ) (e : s' = { s with heap := h₁, toks := tk₁ }) (a : 1 ≤ tk₁) (F : Fr h₀ L h₁ m₁) (N : News h₀ L h₁ news₁) (hn : ∀ p ∈ led st, p ∈ news₁) (hm : ∀ z, z ≠ x → z ≠ y → m₁ z = upd st m₀ z) (hI : I n st)
def WhPost {σ : Type} (h₀ : Heap) (L : Addr) (x y : Str) (mk : σ → Str → Option Value) (led : σ → Led) (I : Nat → σ → Prop) (n : Nat) (s₁ : Shared) (f : Flow) (s₂ : Shared) : Prop :=
  match f with
  | .next => WhEnd h₀ L x y mk led I n s₁ s₂
  | _ => False
theorem WhEnd.intro {σ : Type} {x y : Str} {mk : σ → Str → Option Value} {led : σ → Led} {I : Nat → σ → Prop} {n : Nat} {s₁ : Shared} {h' : Heap} {tk : Nat} {m' : Str → Option Value} {news' : Led} (st' : σ) (n' : Nat)
    (F : Fr h₀ L h' m') (N : News h₀ L h' news') (hn : ∀ p ∈ led st', p ∈ news') (hm : ∀ z, z ≠ x → z ≠ y → m' z = mk st' z) (hlt : n' < n) (hI : I n' st') :
    WhEnd h₀ L x y mk led I n s₁ { s₁ with heap := h', toks := tk } := ⟨h', tk, m', news', st', n', rfl, F, N, hn, hm, hlt, hI⟩
theorem While_st {σ : Type} (x y : Str) (upd : σ → (Str → Option Value) → Str → Option Value) (led : σ → Led) (I : Nat → σ → Prop) (st₀ : σ) (n₀ : Nat) {test : PySem.Expr} {body : List Stmt} {pos : Pos} {m₀ : Str → Option Value} {news : Led}
    (F : Fr h₀ L s.heap m₀) (N : News h₀ L s.heap news) (hm : ∀ z, m₀ z = upd st₀ m₀ z) (hn : ∀ p ∈ led st₀, p ∈ news) (hI : I n₀ st₀) (htk : 1 ≤ s.toks)
    (turn : ∀ n st u v h tk, 1 ≤ tk → I n st → Fr h₀ L h (fun z => if z = x then u else if z = y then v else upd st m₀ z) → News h₀ L h (led st) →
      wpAny (model prog w) A (isTrue test env (eval test env)) (fun b s₂ =>
        if b = true then wpAny (model prog w) A (execs body env) (WhPost h₀ L x y (fun st => upd st m₀) led I n { s with heap := h, toks := tk }) E s₂ else Q .next s₂) E { s with heap := h, toks := tk })
    (hE : PassesOwn (model prog w) A env E) :
    wpAny (model prog w) A (exec (.While test body [] pos) env) Q E s := by
  refine wpAny_While (codeAny_whileLoop (WInv h₀ L x y m₀ upd led I s) ?_ n₀ ⟨s.heap, s.toks, m₀, news, st₀, rfl, htk, F, N, hn, fun z _ _ => hm z, hI⟩)
  rintro n s' ⟨h₁, tk₁, m₁, news₁, st, rfl, htk₁, F₁, N₁, hn₁, hm₁, I₁⟩
  have F₂ : Fr h₀ L h₁ (fun z => if z = x then m₁ x else if z = y then m₁ y else upd st m₀ z) := fr_congr F₁ fun z => by
    by_cases h1 : z = x
    · rw [if_pos h1, h1]
    · by_cases h2 : z = y
      · rw [if_neg h1, if_pos h2, h2]
      · rw [if_neg h1, if_neg h2]; exact hm₁ z h1 h2
  refine wpAny_mono (wpAny_toks_of (n := 1) htk₁ (turn n st (m₁ x) (m₁ y) h₁ tk₁ htk₁ I₁ F₂ (fun p hp => N₁ p (hn₁ p hp)))) (fun b s₂ h₂' => ?_) (fun e s' h => hE e s' h.2)
  obtain ⟨tk₂, h₂⟩ := h₂'
  cases b with
  | false =>
    simp only [Bool.false_eq_true, if_false] at h₂ ⊢
    exact wpAny_execs_nil h₂
  | true =>
    simp only [if_true] at h₂ ⊢
    refine wpAny_mono (wpAny_toks_of (n := 1) tk₂ h₂) (fun f s₃ h₃' => ?_) (fun e s' h => hE e s' h.2)
    obtain ⟨tk₃, h₃⟩ := h₃'
    cases f with
    | next =>
      obtain ⟨h', tk, m₂, news₂, st', n', rfl, F', N', hn', hm', hlt, I'⟩ := h₃
      exact ⟨n', hlt, h', tk, m₂, news₂, st', rfl, tk₃, F', N', hn', hm', I'⟩
    | _ => exact h₃.elim
end
theorem Tells.one {w : World} {mean : ExcName → Option Value} {mg mb : Str → Option Value} {dd uu : Nat} {f : Addr} {news : Led} {vs : List Value} {Ret : Value → Led → Prop}
    (C : Tells w mean mg mb 0 dd uu f news vs Ret) : Tells w mean mg mb 1 dd uu f news vs Ret :=
  Tells.of fun dp un gd cn cs a ccd cl outer A₀ base h₀ L m s Q E B F X N T hk hd hu _ hret =>
    C dp un gd cn cs a ccd cl outer A₀ base h₀ L m s Q E B F X N T hk hd hu (Nat.zero_le _) fun r tl h' tk' F' N' _ R => hret r tl h' tk' F' N' R
theorem feqW {m₀ m' : Str → Option Value} {x y a b : Str} {v u : Value} (h1 : m' a = some v) (h1' : m' b = some u) (h2 : ∀ z, z ≠ x → z ≠ y → z ≠ a → z ≠ b → m' z = m₀ z) : ∀ z, z ≠ x → z ≠ y → m' z = if z = a then some v else if z = b then some u else m₀ z := fun z hx hy => by
  by_cases e : z = a
  · rw [if_pos e, e, h1]
  · rw [if_neg e]
    by_cases e2 : z = b
    · rw [if_pos e2, e2, h1']
    · rw [if_neg e2]; exact h2 z hx hy e e2
def climbN (qs : List Row4) : Nat → Str → List Str → Str × List Str
  | 0, a, r => (a, r)
  | n + 1, a, r => if (spHead a != Txt.mul (Str.ofString "/") ((spHead a).length : Int)) = true then climbN qs n (spHead a) (unescT (spTail a) qs :: r) else (spHead a, unescT (spTail a) qs :: r)
def climbT (x : Str) (qs : List Row4) : Str × List Str := climbN qs (x.length + 1) x []
theorem climb_go {qs : List Row4} {n : Nat} {a : Str} {r : List Str} (h : (spHead a != Txt.mul (Str.ofString "/") ((spHead a).length : Int)) = true) : climbN qs (n + 1) a r = climbN qs n (spHead a) (unescT (spTail a) qs :: r) := by
  rw [climbN, if_pos h]
theorem climb_stop {qs : List Row4} {n : Nat} {a : Str} {r : List Str} (h : (spHead a != Txt.mul (Str.ofString "/") ((spHead a).length : Int)) = false) : climbN qs (n + 1) a r = (spHead a, unescT (spTail a) qs :: r) := by
  rw [climbN, if_neg (by rw [h]; simp)]
/-- a pair of a text and a list of texts -/
abbrev RClimb (a : Str) (xs : List Str) (r : Value) (tl : Led) : Prop := ∃ D t l vs c, r = .ref D ∧ tl = [(D, tupOf [.str a t, .ref l]), (l, W.listOf vs.toArray c)] ∧ StrsAre vs xs
theorem spHead_le (x : Str) : (spHead x).length ≤ x.length := by
  unfold spHead
  split
  · exact Nat.le_trans (len_rstripChars _ _) (PyProof.Txt.length_slice_le _ _ _)
  · exact PyProof.Txt.length_slice_le _ _ _
theorem spTail_le (x : Str) : (spTail x).length ≤ x.length := PyProof.Txt.length_slice_le _ _ _
theorem news_tail {h₀ h : Heap} {L : Addr} {p : Addr × Obj} {news : Led} (N : News h₀ L h (p :: news)) : News h₀ L h news := fun q hq => N q (.tail _ hq)
theorem climb_ok {w : World} {mean : ExcName → Option Value} {mg mb : Str → Option Value} {news : List (Addr × Obj)} (x : Str) (t : Tok) (d : Addr) (qs : List Row4) (ep : Nat) (hm : (d, dObj w qs ep) ∈ news) (hq : RowsOk qs) (lo : (d == sysModules) = false) (hsz : x.length ≤ 1000) :
    Tells w mean mg mb 1 5 96 194 news [.str x t, .ref d] (RClimb (climbT x qs).1 (climbT x qs).2) := by
  w_on
  w_strict (
    refine Tells.of ?_
    unfold Tells0
    k_fill
    intro dp un gd cn cs a ccd cl outer A₀ base h₀ L m s Q E B F X N T hk hd hu htk hret
    refine wpAny_call ?_
    k_dflt cell_enter
    
    repeat' ((fail_if_success (with_reducible show wpAny _ _ (exec (.While _ _ _ _) _) _ _ _)); ((first | ((with_reducible show wpAny _ _ (call (Value.ref 46) _) _ _ _); (k_here; k_dflt (refine' Tells.useS ?k1Qz ?k2Qz ?k3Qz ?k4Qz ?k5Qz ?k6Qz ?kcQz ?k7Qz ?k8Qz ?k9Qz ?_; (case k1Qz => k_asm); (case k2Qz => k_asm); (case k3Qz => k_asm); (case k4Qz => k_asm); (case k5Qz => k_asm); (case kcQz => exact unescape_ok _ _ _ _ _ (by k_mem) (by assumption) (by assumption) (by omega)); (case k6Qz => first | exact rfl | assumption); (case k7Qz => ktr_room); (case k8Qz => ktr_units); (case k9Qz => first | exact Nat.zero_le _ | ((try dsimp only); omega)); k_whole; intro t9 h9 tk9 F9 N9 htk9))) | ((with_reducible show wpAny _ _ (call (Value.ref 147) _) _ _ _); (k_here; k_dflt (refine' Tells.useP ?k1Qz ?k2Qz ?k3Qz ?k4Qz ?k5Qz ?k6Qz ?kcQz ?k7Qz ?k8Qz ?k9Qz ?_; (case k1Qz => k_asm); (case k2Qz => k_asm); (case k3Qz => k_asm); (case k4Qz => k_asm); (case k5Qz => k_asm); (case kcQz => exact Tells.one (split_ok _ _ (by omega))); (case k6Qz => first | exact rfl | assumption); (case k7Qz => ktr_room); (case k8Qz => ktr_units); (case k9Qz => first | exact Nat.zero_le _ | ((try dsimp only); omega)); k_whole); intro D9 h9 tk9 t9 u9 F9 N9 htk9)) | ((with_reducible show wpAny _ _ (call (Value.builtin "list.insert") _) _ _ _); (k_here; (try dsimp only [List.cons_append, List.nil_append]); (with_reducible show wpAny _ _ (call (Value.builtin _) [Value.ref _, Value.int 0 _, Value.str _ _]) _ _ _); k_dflt (refine' txt_insert0 ?k1Qz ?k2Qz ?k3Qz ?k4Qz ?k5Qz ?_; (case k1Qz => k_asm); (case k2Qz => exact news_tail (by k_asm)); (case k5Qz => k_upd); (case k3Qz => assumption); (case k4Qz => omega); k_whole); intro h' F' N' hs9; (try k_sweep))) | ((with_reducible show wpAny _ _ (call (Value.builtin "str.split") _) _ _ _); (k_here; (try dsimp only [List.cons_append, List.nil_append]); (with_reducible show wpAny _ _ (call (Value.builtin _) [Value.str _ _, Value.str _ _]) _ _ _); k_dflt (refine' txt_split ?k1Qz ?k2Qz ?k3Qz ?k4Qz ?_; (case k1Qz => k_asm); (case k2Qz => k_asm); (case k3Qz => rfl); (case k4Qz => omega); k_whole); intro D' h' ws k9 F' N' l1 hs9; (try k_lt l1); (try k_sweep))) | ((with_reducible show wpAny _ _ (subscriptTail _ (PySem.Expr.Slice _ _ _ _) (Value.ref _) (Value.ref _)) _ _ _); (k_here; (with_reducible show wpAny _ _ (subscriptTail _ (PySem.Expr.Slice _ _ none _) (Value.ref _) (Value.ref _)) _ _ _); k_dflt (refine' txt_slice (s := ⟨_, _, _, _, _⟩) ?FQz ?NQz ?mQz ?xQz ?zQz ?pQz ?qQz ?yQz ?_ ?sQz ?tQz; (case FQz => k_asm); (case NQz => k_asm); (case mQz => k_mem); (case xQz => assumption); (case zQz => omega); (case pQz => first | exact IsPart.none | exact IsPart.int _ _); (case qQz => first | exact IsPart.none | exact IsPart.int _ _); (case yQz => first | exact pick_upto1 (by assumption) | exact pick_run1 (by assumption) (by omega) | exact pick_from (by assumption) (by omega)); (case sQz => with_unfolding_all rfl); (case tQz => (intro _; with_unfolding_all rfl)); k_whole); intro D' h' ws F' N' l1 hs9; (try k_lt l1); (try k_sweep))) | ((with_reducible show wpAny _ _ (subscriptTail _ (PySem.Expr.Slice _ _ _ _) (Value.ref _) (Value.ref _)) _ _ _); (k_here; (with_reducible show wpAny _ _ (subscriptTail _ (PySem.Expr.Slice none none (some _) _) (Value.ref _) (Value.ref _)) _ _ _); k_dflt (refine' txt_rev (s := ⟨_, _, _, _, _⟩) ?FQz ?NQz ?mQz ?xQz ?zQz ?kQz ?_ ?sQz ?tQz; (case FQz => k_asm); (case NQz => k_asm); (case mQz => k_mem); (case xQz => assumption); (case zQz => omega); (case kQz => exact IsPart.int _ _); (case sQz => with_unfolding_all rfl); (case tQz => (intro _; with_unfolding_all rfl)); k_whole); intro D' h' ws F' N' l1 hs9; (try k_lt l1); (try k_sweep))) | ((with_reducible show wpAny _ _ (binaryOp Operator.Add (Value.ref _) (Value.ref _)) _ _ _); (k_here; (with_reducible show wpAny _ _ (binaryOp _ (Value.ref _) (Value.ref _)) _ _ _); k_dflt (refine' txt_add ?k1Qz ?k2Qz ?k3Qz ?k4Qz ?k5Qz ?k6Qz ?k7Qz ?_; (case k1Qz => k_asm); (case k2Qz => k_asm); (case k3Qz => k_mem); (case k4Qz => assumption); (case k5Qz => k_mem); (case k6Qz => assumption); (case k7Qz => omega); k_whole); intro D' h' F' N' l1 hs9; (try k_lt l1); (try k_sweep))) | ((with_reducible show wpAny _ _ (call (Value.builtin "list.insert") _) _ _ _); (k_here; (try dsimp only [List.cons_append, List.nil_append]); (with_reducible show wpAny _ _ (call (Value.builtin _) [Value.ref _, Value.int 0 _, Value.str _ _]) _ _ _); k_dflt (refine' txt_insert0 ?k1Qz ?k2Qz ?k3Qz ?k4Qz ?k5Qz ?_; (case k1Qz => k_asm); (case k2Qz => k_asm); (case k5Qz => k_upd); (case k3Qz => assumption); (case k4Qz => omega); k_whole); intro h' F' N' hs9; (try k_sweep))) | ((with_reducible show wpAny _ _ (call (Value.builtin "list.pop") _) _ _ _); (k_here; (try dsimp only [List.cons_append, List.nil_append]); (with_reducible show wpAny _ _ (call (Value.builtin _) [Value.ref _]) _ _ _); k_dflt (refine' txt_pop ?k1Qz ?k2Qz ?k3Qz ?k6Qz ?k4Qz ?k5Qz ?_; (case k1Qz => k_asm); (case k2Qz => k_asm); (case k5Qz => k_upd); (case k3Qz => assumption); (case k4Qz => omega); (case k6Qz => first | assumption | exact ne1 (by assumption) | exact ne2 (by assumption)); k_whole); intro h' t9 F' N' hs9; (try k_sweep))) | ((with_reducible show wpAny _ _ (call (Value.builtin "list.append") _) _ _ _); (k_here; (try dsimp only [List.cons_append, List.nil_append]); (with_reducible show wpAny _ _ (call (Value.builtin _) [Value.ref _, Value.str _ _]) _ _ _); k_dflt (refine' txt_append ?k1Qz ?k2Qz ?k3Qz ?k4Qz ?k5Qz ?_; (case k1Qz => k_asm); (case k2Qz => k_asm); (case k5Qz => k_upd); (case k3Qz => assumption); (case k4Qz => omega); k_whole); intro h' F' N' hs9; (try k_sweep))) | ((with_reducible show wpAny _ _ (call (Value.builtin "str.join") _) _ _ _); (k_here; (try dsimp only [List.cons_append, List.nil_append]); (with_reducible show wpAny _ _ (call (Value.builtin _) [Value.str _ _, Value.ref _]) _ _ _); k_dflt (refine' txt_join ?k1Qz ?k2Qz ?k3Qz ?k4Qz ?_; (case k1Qz => k_asm); (case k2Qz => k_mem); (case k3Qz => assumption); (case k4Qz => first | assumption | omega); k_whole); intro t9 k9)) | ((with_reducible show wpAny _ _ (call (Value.builtin "len") _) _ _ _); (k_here; (with_reducible show wpAny _ _ (call (Value.builtin _) [Value.ref _]) _ _ _); k_dflt (refine' txt_len ?k1Qz ?k2Qz ?k3Qz ?k4Qz ?_; (case k1Qz => k_asm); (case k2Qz => k_mem); (case k3Qz => assumption); (case k4Qz => omega); k_whole))) | ((with_reducible show wpAny _ _ (truthy (Value.ref _)) _ _ _); (k_here; k_dflt (refine' txt_truthy ?k1Qz ?k2Qz ?k3Qz ?k4Qz ?_; (case k1Qz => k_asm); (case k2Qz => k_mem); (case k3Qz => assumption); (case k4Qz => omega); k_whole))) | ((with_reducible show wpAny _ _ (subscriptTail _ _ (Value.ref _) (Value.int _ _)) _ _ _); (k_here; (with_reducible show wpAny _ _ (subscriptTail _ _ (Value.ref _) (Value.int (-1) _)) _ _ _); k_dflt (refine' txt_last ?k1Qz ?k2Qz ?k3Qz ?k4Qz ?_ ?k5Qz ?k6Qz; (case k1Qz => k_asm); (case k2Qz => k_mem); (case k3Qz => assumption); (case k4Qz => first | assumption | exact ne1 (by assumption) | exact ne2 (by assumption)); (case k5Qz => with_unfolding_all rfl); (case k6Qz => (intro _; with_unfolding_all rfl)); k_whole); intro t9)) | ((with_reducible show wpAny _ _ (binaryOp Operator.Add (Value.str _ _) (Value.str _ _)) _ _ _); ((with_reducible show wpAny _ _ (binaryOp Operator.Add (Value.str _ _) (Value.str _ _)) _ _ _); (refine SB.add (hsz := ?hszQz) ?_); (case hszQz => (rw [PySem.sizeLine_eq]; (try simp only [Str.length_append]); omega)); intro t9 k9)) | ((with_reducible show wpAny _ _ (call (Value.builtin "list.append") _) _ _ _); (k_here; (try dsimp only [List.cons_append, List.nil_append]); (with_reducible show wpAny _ _ (call (Value.builtin _) [Value.ref _, _]) _ _ _); k_dflt (refine' append_K ?k1Qz ?k2Qz ?k3Qz ?_ ?zQz; (case k1Qz => k_asm); (case k2Qz => k_asm); (case k3Qz => k_upd); (case zQz => size_fits); k_whole); intro h' F' N'; (try k_sweep))) | ((with_reducible show wpAny _ _ (execs [] _) _ _ _); (k_here; (with_reducible refine wpAny_execs_nil ?_); (try dsimp only))) | ((with_reducible show wpAny _ _ (execs (_ :: _) _) _ _ _); (k_here; (with_reducible refine wpAny_execs_cons ?_); (try dsimp only))) | walk1) <;> (try dsimp only)))
    rename News _ _ _ _ => N1
    rename Fr _ _ _ _ => F1
    refine While_st (σ := Str × Tok × Bool × List Value × List Str × Nat) (Str.ofString "head") (Str.ofString "tail") (fun st m z => if z = Str.ofString "at" then some (.str st.1 st.2.1) else if z = Str.ofString "going" then some (.bool st.2.2.1) else m z)
      (fun st => (_, W.listOf st.2.2.2.1.toArray st.2.2.2.2.2) :: news)
      (fun n st => st.1.length ≤ x.length ∧ StrsAre st.2.2.2.1 st.2.2.2.2.1 ∧ (st.2.2.1 = true → st.1.length < n ∧ climbN qs n st.1 st.2.2.2.2.1 = climbT x qs) ∧ (st.2.2.1 = false → (st.1, st.2.2.2.2.1) = climbT x qs) ∧ st.2.2.2.2.1.length + n ≤ x.length + 1)
      (x, t, true, [], [], 0) (x.length + 1) F1 N1 (upd2 rfl rfl) (fun p hp => hp) ⟨Nat.le_refl _, .nil, fun _ => ⟨Nat.lt_succ_self _, rfl⟩, fun h => absurd (show true = false from h) (by decide), by simp⟩ (by (try dsimp only); omega) ?_ ?_
    · rintro n ⟨y, ty, g, us, ys, c⟩ u0 v0 h tk htk1 ⟨hy, hs, hgo, hst, hroom⟩ F2 N2
      clear N1 F1
      dsimp only at F2 N2 hy hs hgo hst hroom ⊢
      rcases g with _ | _
      · have hst := hst rfl
        repeat' ((fail_if_success (with_reducible show wpAny _ _ (pyIter _) _ _ _)); ((first | ((with_reducible show wpAny _ _ (call (Value.ref 46) _) _ _ _); (k_here; k_dflt (refine' Tells.useS ?k1Qz ?k2Qz ?k3Qz ?k4Qz ?k5Qz ?k6Qz ?kcQz ?k7Qz ?k8Qz ?k9Qz ?_; (case k1Qz => k_asm); (case k2Qz => k_asm); (case k3Qz => k_asm); (case k4Qz => k_asm); (case k5Qz => k_asm); (case kcQz => exact unescape_ok _ _ _ _ _ (by k_mem) (by assumption) (by assumption) (by omega)); (case k6Qz => first | exact rfl | assumption); (case k7Qz => ktr_room); (case k8Qz => ktr_units); (case k9Qz => first | exact Nat.zero_le _ | ((try dsimp only); omega)); k_whole; intro t9 h9 tk9 F9 N9 htk9))) | ((with_reducible show wpAny _ _ (call (Value.ref 147) _) _ _ _); (k_here; k_dflt (refine' Tells.useP ?k1Qz ?k2Qz ?k3Qz ?k4Qz ?k5Qz ?k6Qz ?kcQz ?k7Qz ?k8Qz ?k9Qz ?_; (case k1Qz => k_asm); (case k2Qz => k_asm); (case k3Qz => k_asm); (case k4Qz => k_asm); (case k5Qz => k_asm); (case kcQz => exact Tells.one (split_ok _ _ (by omega))); (case k6Qz => first | exact rfl | assumption); (case k7Qz => ktr_room); (case k8Qz => ktr_units); (case k9Qz => first | exact Nat.zero_le _ | ((try dsimp only); omega)); k_whole); intro D9 h9 tk9 t9 u9 F9 N9 htk9)) | ((with_reducible show wpAny _ _ (call (Value.builtin "list.insert") _) _ _ _); (k_here; (try dsimp only [List.cons_append, List.nil_append]); (with_reducible show wpAny _ _ (call (Value.builtin _) [Value.ref _, Value.int 0 _, Value.str _ _]) _ _ _); k_dflt (refine' txt_insert0 ?k1Qz ?k2Qz ?k3Qz ?k4Qz ?k5Qz ?_; (case k1Qz => k_asm); (case k2Qz => exact news_tail (by k_asm)); (case k5Qz => k_upd); (case k3Qz => assumption); (case k4Qz => omega); k_whole); intro h' F' N' hs9; (try k_sweep))) | ((with_reducible show wpAny _ _ (call (Value.builtin "str.split") _) _ _ _); (k_here; (try dsimp only [List.cons_append, List.nil_append]); (with_reducible show wpAny _ _ (call (Value.builtin _) [Value.str _ _, Value.str _ _]) _ _ _); k_dflt (refine' txt_split ?k1Qz ?k2Qz ?k3Qz ?k4Qz ?_; (case k1Qz => k_asm); (case k2Qz => k_asm); (case k3Qz => rfl); (case k4Qz => omega); k_whole); intro D' h' ws k9 F' N' l1 hs9; (try k_lt l1); (try k_sweep))) | ((with_reducible show wpAny _ _ (subscriptTail _ (PySem.Expr.Slice _ _ _ _) (Value.ref _) (Value.ref _)) _ _ _); (k_here; (with_reducible show wpAny _ _ (subscriptTail _ (PySem.Expr.Slice _ _ none _) (Value.ref _) (Value.ref _)) _ _ _); k_dflt (refine' txt_slice (s := ⟨_, _, _, _, _⟩) ?FQz ?NQz ?mQz ?xQz ?zQz ?pQz ?qQz ?yQz ?_ ?sQz ?tQz; (case FQz => k_asm); (case NQz => k_asm); (case mQz => k_mem); (case xQz => assumption); (case zQz => omega); (case pQz => first | exact IsPart.none | exact IsPart.int _ _); (case qQz => first | exact IsPart.none | exact IsPart.int _ _); (case yQz => first | exact pick_upto1 (by assumption) | exact pick_run1 (by assumption) (by omega) | exact pick_from (by assumption) (by omega)); (case sQz => with_unfolding_all rfl); (case tQz => (intro _; with_unfolding_all rfl)); k_whole); intro D' h' ws F' N' l1 hs9; (try k_lt l1); (try k_sweep))) | ((with_reducible show wpAny _ _ (subscriptTail _ (PySem.Expr.Slice _ _ _ _) (Value.ref _) (Value.ref _)) _ _ _); (k_here; (with_reducible show wpAny _ _ (subscriptTail _ (PySem.Expr.Slice none none (some _) _) (Value.ref _) (Value.ref _)) _ _ _); k_dflt (refine' txt_rev (s := ⟨_, _, _, _, _⟩) ?FQz ?NQz ?mQz ?xQz ?zQz ?kQz ?_ ?sQz ?tQz; (case FQz => k_asm); (case NQz => k_asm); (case mQz => k_mem); (case xQz => assumption); (case zQz => omega); (case kQz => exact IsPart.int _ _); (case sQz => with_unfolding_all rfl); (case tQz => (intro _; with_unfolding_all rfl)); k_whole); intro D' h' ws F' N' l1 hs9; (try k_lt l1); (try k_sweep))) | ((with_reducible show wpAny _ _ (binaryOp Operator.Add (Value.ref _) (Value.ref _)) _ _ _); (k_here; (with_reducible show wpAny _ _ (binaryOp _ (Value.ref _) (Value.ref _)) _ _ _); k_dflt (refine' txt_add ?k1Qz ?k2Qz ?k3Qz ?k4Qz ?k5Qz ?k6Qz ?k7Qz ?_; (case k1Qz => k_asm); (case k2Qz => k_asm); (case k3Qz => k_mem); (case k4Qz => assumption); (case k5Qz => k_mem); (case k6Qz => assumption); (case k7Qz => omega); k_whole); intro D' h' F' N' l1 hs9; (try k_lt l1); (try k_sweep))) | ((with_reducible show wpAny _ _ (call (Value.builtin "list.insert") _) _ _ _); (k_here; (try dsimp only [List.cons_append, List.nil_append]); (with_reducible show wpAny _ _ (call (Value.builtin _) [Value.ref _, Value.int 0 _, Value.str _ _]) _ _ _); k_dflt (refine' txt_insert0 ?k1Qz ?k2Qz ?k3Qz ?k4Qz ?k5Qz ?_; (case k1Qz => k_asm); (case k2Qz => k_asm); (case k5Qz => k_upd); (case k3Qz => assumption); (case k4Qz => omega); k_whole); intro h' F' N' hs9; (try k_sweep))) | ((with_reducible show wpAny _ _ (call (Value.builtin "list.pop") _) _ _ _); (k_here; (try dsimp only [List.cons_append, List.nil_append]); (with_reducible show wpAny _ _ (call (Value.builtin _) [Value.ref _]) _ _ _); k_dflt (refine' txt_pop ?k1Qz ?k2Qz ?k3Qz ?k6Qz ?k4Qz ?k5Qz ?_; (case k1Qz => k_asm); (case k2Qz => k_asm); (case k5Qz => k_upd); (case k3Qz => assumption); (case k4Qz => omega); (case k6Qz => first | assumption | exact ne1 (by assumption) | exact ne2 (by assumption)); k_whole); intro h' t9 F' N' hs9; (try k_sweep))) | ((with_reducible show wpAny _ _ (call (Value.builtin "list.append") _) _ _ _); (k_here; (try dsimp only [List.cons_append, List.nil_append]); (with_reducible show wpAny _ _ (call (Value.builtin _) [Value.ref _, Value.str _ _]) _ _ _); k_dflt (refine' txt_append ?k1Qz ?k2Qz ?k3Qz ?k4Qz ?k5Qz ?_; (case k1Qz => k_asm); (case k2Qz => k_asm); (case k5Qz => k_upd); (case k3Qz => assumption); (case k4Qz => omega); k_whole); intro h' F' N' hs9; (try k_sweep))) | ((with_reducible show wpAny _ _ (call (Value.builtin "str.join") _) _ _ _); (k_here; (try dsimp only [List.cons_append, List.nil_append]); (with_reducible show wpAny _ _ (call (Value.builtin _) [Value.str _ _, Value.ref _]) _ _ _); k_dflt (refine' txt_join ?k1Qz ?k2Qz ?k3Qz ?k4Qz ?_; (case k1Qz => k_asm); (case k2Qz => k_mem); (case k3Qz => assumption); (case k4Qz => first | assumption | omega); k_whole); intro t9 k9)) | ((with_reducible show wpAny _ _ (call (Value.builtin "len") _) _ _ _); (k_here; (with_reducible show wpAny _ _ (call (Value.builtin _) [Value.ref _]) _ _ _); k_dflt (refine' txt_len ?k1Qz ?k2Qz ?k3Qz ?k4Qz ?_; (case k1Qz => k_asm); (case k2Qz => k_mem); (case k3Qz => assumption); (case k4Qz => omega); k_whole))) | ((with_reducible show wpAny _ _ (truthy (Value.ref _)) _ _ _); (k_here; k_dflt (refine' txt_truthy ?k1Qz ?k2Qz ?k3Qz ?k4Qz ?_; (case k1Qz => k_asm); (case k2Qz => k_mem); (case k3Qz => assumption); (case k4Qz => omega); k_whole))) | ((with_reducible show wpAny _ _ (subscriptTail _ _ (Value.ref _) (Value.int _ _)) _ _ _); (k_here; (with_reducible show wpAny _ _ (subscriptTail _ _ (Value.ref _) (Value.int (-1) _)) _ _ _); k_dflt (refine' txt_last ?k1Qz ?k2Qz ?k3Qz ?k4Qz ?_ ?k5Qz ?k6Qz; (case k1Qz => k_asm); (case k2Qz => k_mem); (case k3Qz => assumption); (case k4Qz => first | assumption | exact ne1 (by assumption) | exact ne2 (by assumption)); (case k5Qz => with_unfolding_all rfl); (case k6Qz => (intro _; with_unfolding_all rfl)); k_whole); intro t9)) | ((with_reducible show wpAny _ _ (binaryOp Operator.Add (Value.str _ _) (Value.str _ _)) _ _ _); ((with_reducible show wpAny _ _ (binaryOp Operator.Add (Value.str _ _) (Value.str _ _)) _ _ _); (refine SB.add (hsz := ?hszQz) ?_); (case hszQz => (rw [PySem.sizeLine_eq]; (try simp only [Str.length_append]); omega)); intro t9 k9)) | ((with_reducible show wpAny _ _ (call (Value.builtin "list.append") _) _ _ _); (k_here; (try dsimp only [List.cons_append, List.nil_append]); (with_reducible show wpAny _ _ (call (Value.builtin _) [Value.ref _, _]) _ _ _); k_dflt (refine' append_K ?k1Qz ?k2Qz ?k3Qz ?_ ?zQz; (case k1Qz => k_asm); (case k2Qz => k_asm); (case k3Qz => k_upd); (case zQz => size_fits); k_whole); intro h' F' N'; (try k_sweep))) | ((with_reducible show wpAny _ _ (execs [] _) _ _ _); (k_here; (with_reducible refine wpAny_execs_nil ?_); (try dsimp only))) | ((with_reducible show wpAny _ _ (execs (_ :: _) _) _ _ _); (k_here; (with_reducible refine wpAny_execs_cons ?_); (try dsimp only))) | walk1) <;> (try dsimp only)))
        rename News h₀ _ _ _ => N9
        have e1 : climbT x qs = (y, ys) := hst.symm
        refine hret _ [(_, _), (_, _)] _ _ (by k_asm) N9 ?_
        rw [e1]
        exact ⟨_, ty, _, us, c, rfl, rfl, hs⟩
      · obtain ⟨hlt, hcl⟩ := hgo rfl
        have hh1 := spHead_le y
        have hh2 := spTail_le y
        have hyn : ys.length ≤ 100000 := by omega
        repeat' ((fail_if_success (with_reducible show wpAny _ _ (pyIter _) _ _ _)); ((first | ((with_reducible show wpAny _ _ (call (Value.ref 46) _) _ _ _); (k_here; k_dflt (refine' Tells.useS ?k1Qz ?k2Qz ?k3Qz ?k4Qz ?k5Qz ?k6Qz ?kcQz ?k7Qz ?k8Qz ?k9Qz ?_; (case k1Qz => k_asm); (case k2Qz => k_asm); (case k3Qz => k_asm); (case k4Qz => k_asm); (case k5Qz => k_asm); (case kcQz => exact unescape_ok _ _ _ _ _ (by k_mem) (by assumption) (by assumption) (by omega)); (case k6Qz => first | exact rfl | assumption); (case k7Qz => ktr_room); (case k8Qz => ktr_units); (case k9Qz => first | exact Nat.zero_le _ | ((try dsimp only); omega)); k_whole; intro t9 h9 tk9 F9 N9 htk9))) | ((with_reducible show wpAny _ _ (call (Value.ref 147) _) _ _ _); (k_here; k_dflt (refine' Tells.useP ?k1Qz ?k2Qz ?k3Qz ?k4Qz ?k5Qz ?k6Qz ?kcQz ?k7Qz ?k8Qz ?k9Qz ?_; (case k1Qz => k_asm); (case k2Qz => k_asm); (case k3Qz => k_asm); (case k4Qz => k_asm); (case k5Qz => k_asm); (case kcQz => exact Tells.one (split_ok _ _ (by omega))); (case k6Qz => first | exact rfl | assumption); (case k7Qz => ktr_room); (case k8Qz => ktr_units); (case k9Qz => first | exact Nat.zero_le _ | ((try dsimp only); omega)); k_whole); intro D9 h9 tk9 t9 u9 F9 N9 htk9)) | ((with_reducible show wpAny _ _ (call (Value.builtin "list.insert") _) _ _ _); (k_here; (try dsimp only [List.cons_append, List.nil_append]); (with_reducible show wpAny _ _ (call (Value.builtin _) [Value.ref _, Value.int 0 _, Value.str _ _]) _ _ _); k_dflt (refine' txt_insert0 ?k1Qz ?k2Qz ?k3Qz ?k4Qz ?k5Qz ?_; (case k1Qz => k_asm); (case k2Qz => exact news_tail (by k_asm)); (case k5Qz => k_upd); (case k3Qz => assumption); (case k4Qz => omega); k_whole); intro h' F' N' hs9; (try k_sweep))) | ((with_reducible show wpAny _ _ (call (Value.builtin "str.split") _) _ _ _); (k_here; (try dsimp only [List.cons_append, List.nil_append]); (with_reducible show wpAny _ _ (call (Value.builtin _) [Value.str _ _, Value.str _ _]) _ _ _); k_dflt (refine' txt_split ?k1Qz ?k2Qz ?k3Qz ?k4Qz ?_; (case k1Qz => k_asm); (case k2Qz => k_asm); (case k3Qz => rfl); (case k4Qz => omega); k_whole); intro D' h' ws k9 F' N' l1 hs9; (try k_lt l1); (try k_sweep))) | ((with_reducible show wpAny _ _ (subscriptTail _ (PySem.Expr.Slice _ _ _ _) (Value.ref _) (Value.ref _)) _ _ _); (k_here; (with_reducible show wpAny _ _ (subscriptTail _ (PySem.Expr.Slice _ _ none _) (Value.ref _) (Value.ref _)) _ _ _); k_dflt (refine' txt_slice (s := ⟨_, _, _, _, _⟩) ?FQz ?NQz ?mQz ?xQz ?zQz ?pQz ?qQz ?yQz ?_ ?sQz ?tQz; (case FQz => k_asm); (case NQz => k_asm); (case mQz => k_mem); (case xQz => assumption); (case zQz => omega); (case pQz => first | exact IsPart.none | exact IsPart.int _ _); (case qQz => first | exact IsPart.none | exact IsPart.int _ _); (case yQz => first | exact pick_upto1 (by assumption) | exact pick_run1 (by assumption) (by omega) | exact pick_from (by assumption) (by omega)); (case sQz => with_unfolding_all rfl); (case tQz => (intro _; with_unfolding_all rfl)); k_whole); intro D' h' ws F' N' l1 hs9; (try k_lt l1); (try k_sweep))) | ((with_reducible show wpAny _ _ (subscriptTail _ (PySem.Expr.Slice _ _ _ _) (Value.ref _) (Value.ref _)) _ _ _); (k_here; (with_reducible show wpAny _ _ (subscriptTail _ (PySem.Expr.Slice none none (some _) _) (Value.ref _) (Value.ref _)) _ _ _); k_dflt (refine' txt_rev (s := ⟨_, _, _, _, _⟩) ?FQz ?NQz ?mQz ?xQz ?zQz ?kQz ?_ ?sQz ?tQz; (case FQz => k_asm); (case NQz => k_asm); (case mQz => k_mem); (case xQz => assumption); (case zQz => omega); (case kQz => exact IsPart.int _ _); (case sQz => with_unfolding_all rfl); (case tQz => (intro _; with_unfolding_all rfl)); k_whole); intro D' h' ws F' N' l1 hs9; (try k_lt l1); (try k_sweep))) | ((with_reducible show wpAny _ _ (binaryOp Operator.Add (Value.ref _) (Value.ref _)) _ _ _); (k_here; (with_reducible show wpAny _ _ (binaryOp _ (Value.ref _) (Value.ref _)) _ _ _); k_dflt (refine' txt_add ?k1Qz ?k2Qz ?k3Qz ?k4Qz ?k5Qz ?k6Qz ?k7Qz ?_; (case k1Qz => k_asm); (case k2Qz => k_asm); (case k3Qz => k_mem); (case k4Qz => assumption); (case k5Qz => k_mem); (case k6Qz => assumption); (case k7Qz => omega); k_whole); intro D' h' F' N' l1 hs9; (try k_lt l1); (try k_sweep))) | ((with_reducible show wpAny _ _ (call (Value.builtin "list.insert") _) _ _ _); (k_here; (try dsimp only [List.cons_append, List.nil_append]); (with_reducible show wpAny _ _ (call (Value.builtin _) [Value.ref _, Value.int 0 _, Value.str _ _]) _ _ _); k_dflt (refine' txt_insert0 ?k1Qz ?k2Qz ?k3Qz ?k4Qz ?k5Qz ?_; (case k1Qz => k_asm); (case k2Qz => k_asm); (case k5Qz => k_upd); (case k3Qz => assumption); (case k4Qz => omega); k_whole); intro h' F' N' hs9; (try k_sweep))) | ((with_reducible show wpAny _ _ (call (Value.builtin "list.pop") _) _ _ _); (k_here; (try dsimp only [List.cons_append, List.nil_append]); (with_reducible show wpAny _ _ (call (Value.builtin _) [Value.ref _]) _ _ _); k_dflt (refine' txt_pop ?k1Qz ?k2Qz ?k3Qz ?k6Qz ?k4Qz ?k5Qz ?_; (case k1Qz => k_asm); (case k2Qz => k_asm); (case k5Qz => k_upd); (case k3Qz => assumption); (case k4Qz => omega); (case k6Qz => first | assumption | exact ne1 (by assumption) | exact ne2 (by assumption)); k_whole); intro h' t9 F' N' hs9; (try k_sweep))) | ((with_reducible show wpAny _ _ (call (Value.builtin "list.append") _) _ _ _); (k_here; (try dsimp only [List.cons_append, List.nil_append]); (with_reducible show wpAny _ _ (call (Value.builtin _) [Value.ref _, Value.str _ _]) _ _ _); k_dflt (refine' txt_append ?k1Qz ?k2Qz ?k3Qz ?k4Qz ?k5Qz ?_; (case k1Qz => k_asm); (case k2Qz => k_asm); (case k5Qz => k_upd); (case k3Qz => assumption); (case k4Qz => omega); k_whole); intro h' F' N' hs9; (try k_sweep))) | ((with_reducible show wpAny _ _ (call (Value.builtin "str.join") _) _ _ _); (k_here; (try dsimp only [List.cons_append, List.nil_append]); (with_reducible show wpAny _ _ (call (Value.builtin _) [Value.str _ _, Value.ref _]) _ _ _); k_dflt (refine' txt_join ?k1Qz ?k2Qz ?k3Qz ?k4Qz ?_; (case k1Qz => k_asm); (case k2Qz => k_mem); (case k3Qz => assumption); (case k4Qz => first | assumption | omega); k_whole); intro t9 k9)) | ((with_reducible show wpAny _ _ (call (Value.builtin "len") _) _ _ _); (k_here; (with_reducible show wpAny _ _ (call (Value.builtin _) [Value.ref _]) _ _ _); k_dflt (refine' txt_len ?k1Qz ?k2Qz ?k3Qz ?k4Qz ?_; (case k1Qz => k_asm); (case k2Qz => k_mem); (case k3Qz => assumption); (case k4Qz => omega); k_whole))) | ((with_reducible show wpAny _ _ (truthy (Value.ref _)) _ _ _); (k_here; k_dflt (refine' txt_truthy ?k1Qz ?k2Qz ?k3Qz ?k4Qz ?_; (case k1Qz => k_asm); (case k2Qz => k_mem); (case k3Qz => assumption); (case k4Qz => omega); k_whole))) | ((with_reducible show wpAny _ _ (subscriptTail _ _ (Value.ref _) (Value.int _ _)) _ _ _); (k_here; (with_reducible show wpAny _ _ (subscriptTail _ _ (Value.ref _) (Value.int (-1) _)) _ _ _); k_dflt (refine' txt_last ?k1Qz ?k2Qz ?k3Qz ?k4Qz ?_ ?k5Qz ?k6Qz; (case k1Qz => k_asm); (case k2Qz => k_mem); (case k3Qz => assumption); (case k4Qz => first | assumption | exact ne1 (by assumption) | exact ne2 (by assumption)); (case k5Qz => with_unfolding_all rfl); (case k6Qz => (intro _; with_unfolding_all rfl)); k_whole); intro t9)) | ((with_reducible show wpAny _ _ (binaryOp Operator.Add (Value.str _ _) (Value.str _ _)) _ _ _); ((with_reducible show wpAny _ _ (binaryOp Operator.Add (Value.str _ _) (Value.str _ _)) _ _ _); (refine SB.add (hsz := ?hszQz) ?_); (case hszQz => (rw [PySem.sizeLine_eq]; (try simp only [Str.length_append]); omega)); intro t9 k9)) | ((with_reducible show wpAny _ _ (call (Value.builtin "list.append") _) _ _ _); (k_here; (try dsimp only [List.cons_append, List.nil_append]); (with_reducible show wpAny _ _ (call (Value.builtin _) [Value.ref _, _]) _ _ _); k_dflt (refine' append_K ?k1Qz ?k2Qz ?k3Qz ?_ ?zQz; (case k1Qz => k_asm); (case k2Qz => k_asm); (case k3Qz => k_upd); (case zQz => size_fits); k_whole); intro h' F' N'; (try k_sweep))) | ((with_reducible show wpAny _ _ (execs [] _) _ _ _); (k_here; (with_reducible refine wpAny_execs_nil ?_); (try dsimp only))) | ((with_reducible show wpAny _ _ (execs (_ :: _) _) _ _ _); (k_here; (with_reducible refine wpAny_execs_cons ?_); (try dsimp only))) | walk1) <;> (try dsimp only)))
        dsimp only [WhPost]; rename Fr _ _ _ _ => F9; rename News _ _ _ _ => N9; rename StrsAre _ (_ :: _) => hs9
        refine' WhEnd.intro (spHead y, _, spHead y != Txt.mul (Str.ofString "/") ((spHead y).length : Int), _, unescT (spTail y) qs :: ys, _) (n - 1) F9 N9 (fun p hp => hp) (feqW rfl rfl (fun z hz1 hz2 ha hb => by simp only [if_neg hz1, if_neg hz2, if_neg ha, if_neg hb])) (by omega) ⟨Nat.le_trans hh1 hy, hs9, fun hg => ?_, fun hg => ?_, by dsimp only [List.length_cons]; omega⟩
        · have hg2 := spHead_lt hg
          have en : n = (n - 1) + 1 := by omega
          refine ⟨by dsimp only; omega, ?_⟩
          rw [en, climb_go hg] at hcl
          exact hcl
        · have en : n = (n - 1) + 1 := by omega
          rw [en, climb_stop hg] at hcl
          exact hcl
    · passes_own)
section
variable {prog : Program} {w : World} {A : Around} {E : Value → Shared → Prop} {s : Shared} {h₀ : Heap} {L : Addr} {m : Str → Option Value} {env : Env}
theorem compEnd_mono {I C D : Addr} {s₁ s₂ : Shared} {oI oC oD : Obj} {S : Led → Prop} {r r' : Value → Led → Prop} {y : Value} (hr : ∀ news', r y news' → r' y news')
    (h : LCg.CompEnd h₀ L m s₁ I oI C oC D oD S r y s₂) : LCg.CompEnd h₀ L m s₁ I oI C oC D oD S r' y s₂ := by
  obtain ⟨h', tk, news', e, F, N, o, hS, R⟩ := h
  exact ⟨h', tk, news', e, F, N, o, hS, hr _ R⟩
/-- the turns of a comprehension, by an invariant of what is made so far -/
theorem compRest_of {elt : PySem.Expr} {x : Str} {scope : Scope} {cl : List (Str × Addr)} {S : Led → Prop} {P : Nat → Value → Prop} {Fin : List Value → Led → Prop} {n : Nat} {news : Led} (J : Nat → List Value → Prop)
    (turn : ∀ i v ys I oI C oC D m₂ h tk (E' : Value → Shared → Prop), i < n → P i v → J i ys → LCg.NsObj oC m₂ → m₂ x = some v → Fr h₀ L h m → News h₀ L h ((I, oI) :: (C, oC) :: (D, LCg.lst ys) :: news) → LCg.Off3 I C D news → ((@Ne Nat I C) ∧ (@Ne Nat I D) ∧ (@Ne Nat C D)) →
      wpAny (model prog w) A (eval elt (compEnvC scope cl C env)) (LCg.CompEnd h₀ L m { s with heap := h, toks := tk } I oI C oC D (LCg.lst ys) S (fun y news' => news' = news ∧ J (i + 1) (ys ++ [y]))) E' { s with heap := h, toks := tk })
    (fin : ∀ ys, J n ys → Fin ys news) : ∀ k i ys, i + k = n → J i ys → LCg.CompRest prog w A h₀ L m env elt x scope cl s S P Fin k i ys news
  | 0, i, ys, e, j => by
    have : i = n := by omega
    exact LCg.CompRest.zero (fin ys (this ▸ j))
  | k + 1, i, ys, e, j => by
    refine LCg.CompRest.succ fun v I oI C oC D m₂ h tk E' hP hC hx F N off ne => ?_
    refine wpAny_mono (turn i v ys I oI C oC D m₂ h tk E' (by omega) hP j hC hx F N off ne) (fun y s₂ h₂ => ?_) fun _ _ e => e
    refine compEnd_mono (fun news' r => ?_) h₂
    obtain ⟨rfl, j'⟩ := r
    exact compRest_of J turn fin k (i + 1) (ys ++ [y]) (by omega) j'
/-- the source of a comprehension over a text -/
def StrSrc (prog : Program) (w : World) (A : Around) (h₀ : Heap) (L : Addr) (m : Str → Option Value) (env : Env) (elt : PySem.Expr) (x : Str) (scope : Scope) (cl : List (Str × Addr)) (Q : Value → Shared → Prop) (xv : Value) (s₁ : Shared) : Prop :=
  ∃ y t news, xv = .str y t ∧ A.handled = none ∧ Fr h₀ L s₁.heap m ∧ News h₀ L s₁.heap news ∧ y.cps.size ≤ sizeLine ∧
    ∀ s₂ : Shared, (∃ h, s₂ = { s₁ with heap := h }) → LCg.CompRest prog w A h₀ L m env elt x scope cl s₂ (fun _ => True) (SignAt y) (LCg.FinE h₀ L m s₂ Q) y.cps.size 0 [] news
theorem strIter_st {I : Addr} {k : String} {x : Str} {t : Tok} : ∀ i (h h' : Heap) (o : Obj) (nw : Led), h.IsStrIter I k x t i → h.get? I = some o → h'.get? I = some o → (∀ b o, h₀.get? b = some o → h'.get? b = some o) → News h₀ L h' nw → True → h'.IsStrIter I k x t i :=
  fun i h h' o nw st e e' _ _ _ => by
    obtain ⟨o', q, r⟩ := st
    rw [e] at q; cases q
    exact ⟨o, e', r⟩
theorem ListComp_str {elt iter : PySem.Expr} {x : Str} {px : Pos} {scope : Scope} {cl : List (Str × Addr)} {pos : Pos} {Q : Value → Shared → Prop} (_F₀ : Fr h₀ L s.heap m)
    (hclos : closureFor scope env = pure cl) (hcell : ∀ y ∈ scope.names, y.2 ≠ .cell) (hkind : scope.kind = .function)
    (hnames : ∀ y ∈ scope.names, y.2 = .local → scope.names.lookup y.1 = some .local) (hx : scope.names.lookup x = some .local)
    (h : wpAny (model prog w) A (eval iter env) (StrSrc prog w A h₀ L m env elt x scope cl Q) E s)
    (hs : ∀ x, foldedSetIterable iter env x = pure x) :
    wpAny (model prog w) A (eval (.ListComp elt [⟨.Name x px, iter, [], 0⟩] scope pos) env) Q E s := by
  rw [eval_ListComp]
  refine wpAny_comprehension_free (use := none) rfl hs hclos hkind hnames (wpAny_mono h (fun xv s₁ h₁ => ?_) fun _ _ e => e)
  obtain ⟨y, t, news, rfl, hh, F, N, hsz, R⟩ := h₁
  cases ha : y.cps.all (· < 128)
  · refine wpAny_pyIter_wide ha ?_
    refine LCg.block_U (Walks.strWide hh s₁.heap.objs.size y t) hsz (fun i h st => by obtain ⟨o, e, _⟩ := st; exact ⟨o, e⟩) strIter_st hcell hkind hx ⟨_, Heap.get?_push_size _ rfl, rfl, rfl⟩ (fun b hb => ?_)
      (F.keeps fun _ _ e => Heap.get?_push_of_some _ e) (N.grown fun _ _ e => Heap.get?_push_of_some _ e) (Nat.ne_of_lt F.ns.lt) (next_is_new F) (fun p hp => Nat.ne_of_lt (Heap.lt_size (N p hp).1)) trivial (R _ ⟨_, rfl⟩) ?_
    · rw [List.mem_singleton.mp hb]
      show s₁.heap.objs.size < (s₁.heap.push _).objs.size
      rw [Heap.size_push]; exact Nat.lt_succ_self _
    · intro D C h tk m' ys news' F' N' o1 hn hC₀ hD₀ hCL hDL hCD offC fin
      refine ⟨m', hn, fun h'' hs'' => fin D h'' tk (F'.change hs'' hCL hC₀) (fun p hp => ?_) o1⟩
      refine ⟨hs''.extBut _ _ ?_ (N' p hp).1, (N' p hp).2⟩
      rcases List.mem_cons.mp hp with rfl | hp
      · exact Ne.symm hCD
      · exact offC p hp
  · refine wpAny_pyIter_ascii ha ?_
    refine LCg.block_U (Walks.strAscii hh s₁.heap.objs.size y t) hsz (fun i h st => by obtain ⟨o, e, _⟩ := st; exact ⟨o, e⟩) strIter_st hcell hkind hx ⟨_, Heap.get?_push_size _ rfl, rfl, rfl⟩ (fun b hb => ?_)
      (F.keeps fun _ _ e => Heap.get?_push_of_some _ e) (N.grown fun _ _ e => Heap.get?_push_of_some _ e) (Nat.ne_of_lt F.ns.lt) (next_is_new F) (fun p hp => Nat.ne_of_lt (Heap.lt_size (N p hp).1)) trivial (R _ ⟨_, rfl⟩) ?_
    · rw [List.mem_singleton.mp hb]
      show s₁.heap.objs.size < (s₁.heap.push _).objs.size
      rw [Heap.size_push]; exact Nat.lt_succ_self _
    · intro D C h tk m' ys news' F' N' o1 hn hC₀ hD₀ hCL hDL hCD offC fin
      refine ⟨m', hn, fun h'' hs'' => fin D h'' tk (F'.change hs'' hCL hC₀) (fun p hp => ?_) o1⟩
      refine ⟨hs''.extBut _ _ ?_ (N' p hp).1, (N' p hp).2⟩
      rcases List.mem_cons.mp hp with rfl | hp
      · exact Ne.symm hCD
      · exact offC p hp
end
def thr (a b c d e f : Tok) : List (Value × Value) := [(.str (Str.ofString "&") a, .str (Str.ofString "&amp;") b), (.str (Str.ofString "<") c, .str (Str.ofString "&lt;") d), (.str (Str.ofString ">") e, .str (Str.ofString "&gt;") f)]
def img3 (c : Nat) : Option Str := if c = 38 then some (Str.ofString "&amp;") else if c = 60 then some (Str.ofString "&lt;") else if c = 62 then some (Str.ofString "&gt;") else none
theorem one_eq (s : Str) (k c : Nat) (h : s = ⟨#[k]⟩) : (s = ⟨#[c]⟩) = (c = k) := by
  subst h
  apply propext
  constructor
  · intro e; have := congrArg (fun (z : Str) => z.cps.toList) e; simpa using this.symm
  · intro e; rw [e]
theorem amp_eq (c : Nat) : (Str.ofString "&" = ⟨#[c]⟩) = (c = 38) := one_eq _ _ _ (by decide)
theorem lt_eq (c : Nat) : (Str.ofString "<" = ⟨#[c]⟩) = (c = 60) := one_eq _ _ _ (by decide)
theorem gt_eq (c : Nat) : (Str.ofString ">" = ⟨#[c]⟩) = (c = 62) := one_eq _ _ _ (by decide)
theorem thr_at {a b c' d e f : Tok} (c : Nat) : valueAt (strPairs (thr a b c' d e f)) (⟨#[c]⟩ : Str) = (if c = 38 then some (.str (Str.ofString "&amp;") b) else if c = 60 then some (.str (Str.ofString "&lt;") d) else if c = 62 then some (.str (Str.ofString "&gt;") f) else none) := by
  simp only [valueAt, thr, strPairs, List.find?_cons, amp_eq, lt_eq, gt_eq]
  by_cases h1 : c = 38
  · simp [h1]
  · by_cases h2 : c = 60
    · simp [h2]
    · by_cases h3 : c = 62
      · simp [h3]
      · simp [h1, h2, h3]
theorem thr_in {a b c' d e f : Tok} (c : Nat) : (Spec.lookup (PyData.str ⟨#[c]⟩) (strData (thr a b c' d e f))).isSome = (img3 c).isSome := by
  simp only [thr, strData, Spec.lookup, img3, PyProof.V.same_str, decide_eq_true_eq, amp_eq, lt_eq, gt_eq]
  by_cases h1 : c = 38
  · simp [h1]
  · by_cases h2 : c = 60
    · simp [h2]
    · by_cases h3 : c = 62
      · simp [h3]
      · simp [h1, h2, h3]
def rowGet (qs : List Row4) (k : Str) : Option Row4 := qs.find? fun q => q.1 = k
theorem rows_at (qs : List Row4) (k : Str) : valueAt (qs.map rKv) k = (rowGet qs k).map fun q => .str q.2.2.1 q.2.2.2 := by
  induction qs with
  | nil => rfl
  | cons q r ih =>
    unfold valueAt rowGet at ih ⊢
    rw [List.map_cons, List.find?_cons, List.find?_cons]
    by_cases h : q.1 = k
    · have e : (decide ((rKv q).1 = k)) = true := decide_eq_true (show q.1 = k from h)
      rw [e]; simp [h, rKv]
    · have e : (decide ((rKv q).1 = k)) = false := decide_eq_false (show ¬ q.1 = k from h)
      rw [e]; simp only [h, decide_false]; exact ih
def rowOr (qs : List Row4) (k : Str) : Str := match rowGet qs k with | some q => q.2.2.1 | none => k
section
variable {prog : Program} {w : World} {A : Around} {E : Value → Shared → Prop} {s : Shared} {h₀ : Heap} {L : Addr} {news : Led}
theorem three_get {a : Addr} {o : Obj} {t1 t2 t3 t4 t5 t6 u : Tok} {c : Nat} {y : Str} {Q : Value → Shared → Prop} (N : News h₀ L s.heap news) (hm : (a, o) ∈ news) (hd : Obj.IsDictOf (PySem.strKind prog w) o (strPairs (thr t1 t2 t3 t4 t5 t6)))
    (hc : img3 c = some y) (h : ∀ t', Q (.str y t') { s with toks := s.toks + 1 }) : wpAny (model prog w) A (getItem (.ref a) (.str ⟨#[c]⟩ u)) Q E s := by
  have hD : s.heap.DictOf (PySem.strKind prog w) a (strPairs (thr t1 t2 t3 t4 t5 t6)) := Heap.dictOf_iff.mpr ⟨o, (N _ hm).1, hd⟩
  have hv : ∃ t', valueAt (strPairs (thr t1 t2 t3 t4 t5 t6)) (⟨#[c]⟩ : Str) = some (.str y t') := by
    rw [thr_at]
    unfold img3 at hc
    by_cases h1 : c = 38
    · rw [if_pos h1] at hc ⊢; cases hc; exact ⟨_, rfl⟩
    · rw [if_neg h1] at hc ⊢
      by_cases h2 : c = 60
      · rw [if_pos h2] at hc ⊢; cases hc; exact ⟨_, rfl⟩
      · rw [if_neg h2] at hc ⊢
        by_cases h3 : c = 62
        · rw [if_pos h3] at hc ⊢; cases hc; exact ⟨_, rfl⟩
        · rw [if_neg h3] at hc; cases hc
  obtain ⟨t', hv⟩ := hv
  exact wpAny_getItem_of (strKind_is _ _ _ _) hD.mapOf hv (h t')
theorem row_get {d : Addr} {qs : List Row4} {ep : Nat} {k : Str} {u u2 : Tok} {Q : Value → Shared → Prop} (N : News h₀ L s.heap news) (hm : (d, dObj w qs ep) ∈ news) (hn : Keys qs) (lo : (d == sysModules) = false)
    (h : ∀ t', Q (.str (rowOr qs k) t') { s with toks := s.toks + 1 }) : wpAny (model prog w) A (call (.builtin "dict.get") [.ref d, .str k u, .str k u2]) Q E s := by
  have hd := (dictAt_rows (prog := prog) hn (N _ hm).1).dictOf
  refine call_meetsIn PySem.F.slot_dict_get hd.typeIs PySem.F.entry_dict_get (PySem.F.args_dict_get_3 _ _ _) (meets_dict_get_default (PySem.strKind prog w) d (strKind_is _ _ _ _) lo _) ⟨_, hd.mapOf, ?_⟩
  rw [rows_at]
  unfold rowOr at h
  cases e : rowGet qs k with
  | none => rw [e] at h; exact h u2
  | some q => rw [e] at h; exact h _
end
section
theorem ne_of_ltAll2 {a b : Addr} {news : Led} (h : ∀ p ∈ news, p.1 < a) (hab : a ≤ b) : ∀ p ∈ news, p.1 ≠ b := fun p hp => Nat.ne_of_lt (Nat.lt_of_lt_of_le (h p hp) hab)
theorem ne_off1 {a : Addr} {news : Led} (h : ∀ p ∈ news, p.1 < a) : ∀ p ∈ news, p.1 ≠ a + 1 := ne_of_ltAll2 h (Nat.le_succ _)
theorem ne_off2 {a : Addr} {news : Led} (h : ∀ p ∈ news, p.1 < a) : ∀ p ∈ news, p.1 ≠ a + 1 + 1 := ne_of_ltAll2 h (Nat.le_succ_of_le (Nat.le_succ _))
theorem all_cons {c : Addr} {q : Addr × Obj} {news : Led} (h1 : q.1 ≠ c) (h : ∀ p ∈ news, p.1 ≠ c) : ∀ p ∈ q :: news, p.1 ≠ c := fun p hp => (List.mem_cons.mp hp).elim (fun e => e ▸ h1) (h p)
def img1 (qs : List Row4) (c : Nat) : Str := match img3 c with | some y => y | none => rowOr qs ⟨#[c]⟩
def imgs (x : Str) (qs : List Row4) : List Str := (cl x).map (img1 qs)
def imgT (x : Str) (qs : List Row4) : Str := Txt.join (Str.ofString "") (imgs x qs)
theorem img1_some {qs : List Row4} {c : Nat} {y : Str} (h : img3 c = some y) : img1 qs c = y := by unfold img1; rw [h]
theorem img1_none {qs : List Row4} {c : Nat} (h : img3 c = none) : img1 qs c = rowOr qs ⟨#[c]⟩ := by unfold img1; rw [h]
theorem img3_len {c : Nat} {y : Str} (h : img3 c = some y) : y.length ≤ 5 := by
  unfold img3 at h
  split at h
  · cases h; decide
  · split at h
    · cases h; decide
    · split at h
      · cases h; decide
      · cases h
theorem rowOr_len {qs : List Row4} (hq : RowsOk qs) {k : Str} (hk : k.length ≤ 5) : (rowOr qs k).length ≤ 5 := by
  unfold rowOr
  cases e : rowGet qs k with
  | none => exact hk
  | some q => exact (hq.2.2 q (List.mem_of_find?_eq_some e)).2.2.2.2
theorem img1_len {qs : List Row4} (hq : RowsOk qs) (c : Nat) : (img1 qs c).length ≤ 5 := by
  unfold img1
  cases e : img3 c with
  | none => exact rowOr_len hq (by decide : (1 : Nat) ≤ 5)
  | some y => exact img3_len e
theorem imgs_sum {qs : List Row4} (hq : RowsOk qs) (x : Str) : ((imgs x qs).map (·.length)).sum ≤ 5 * x.length := by
  have e : x.length = (cl x).length := (cl_len x).symm
  rw [e]; unfold imgs
  induction cl x with
  | nil => exact Nat.zero_le _
  | cons a r ih =>
    have := img1_len hq a
    simp only [List.map_cons, List.sum_cons, List.length_cons] at ih ⊢
    omega
theorem imgs_len (x : Str) (qs : List Row4) : (imgs x qs).length = x.length := by unfold imgs; rw [List.length_map, cl_len]
theorem imgs_take {x : Str} {qs : List Row4} {i c : Nat} (h : x.cps[i]? = some c) : (imgs x qs).take (i + 1) = (imgs x qs).take i ++ [img1 qs c] := by
  have h2 : (imgs x qs)[i]? = some (img1 qs c) := by
    have : (cl x)[i]? = some c := by simpa using h
    unfold imgs; rw [List.getElem?_map, this]; rfl
  rw [List.take_add_one, h2]; rfl
theorem snoc_strs {ys : List Value} {xs : List Str} (h : StrsAre ys xs) (y : Str) (t : Tok) : StrsAre (ys ++ [.str y t]) (xs ++ [y]) := h.append' (.cons y t .nil)
local macro_rules | `(tactic| k_all) => `(tactic| exact ne_off1 (by assumption))
local macro_rules | `(tactic| k_all) => `(tactic| exact ne_off2 (by assumption))
local macro_rules | `(tactic| k_all) => `(tactic| ((refine all_cons ?_ ?_); (focus k_ne); k_all))
theorem image_ok {w : World} {mean : ExcName → Option Value} {mg mb : Str → Option Value} {news : List (Addr × Obj)} (x : Str) (t : Tok) (d : Addr) (qs : List Row4) (ep : Nat) (hm : (d, dObj w qs ep) ∈ news) (hq : RowsOk qs) (lo : (d == sysModules) = false) (hsz : x.length ≤ 1000) :
    Tells w mean mg mb 0 5 96 173 news [.str x t, .ref d] (RStr (imgT x qs)) := by
  w_on
  w_strict (
    refine Tells.of ?_
    unfold Tells0
    k_fill
    intro dp un gd cn cs a ccd cl outer A₀ base h₀ L m s Q E B F X N T hk hd hu htk hret
    refine wpAny_call ?_
    k_dflt (refine' code_defC ?k1 ?k2 ?k3 ?k4 ?k5 ?kA ?kF ?kK ?k6 ?k7 ?k8 ?k9 ?kB ?kD ?_ ?c2 ?c3 ?c4; (case kA => exact rfl); (case kF => exact rfl); (case kK => assumption); (case k1 => k_asm); (case k2 => k_asm); (case k3 => k_asm); (case k4 => k_asm); (case k5 => k_asm); (case k6 => k_is); (case k7 => k_is); (case k8 => ktr_room); (case k9 => first | exact BindsTo.of_eq rfl | exact binds_K (by k_in) rfl (by k_is) rfl rfl rfl); (case kB => exact rfl); (case kD => decide +kernel); (case c2 => exact rfl); (case c3 => exact rfl); (case c4 => exact rfl); k_whole; intro g' L' h' tk' cells' FG' F' N' Y' B' X' T' l1; (try k_lt l1); k_cells Y'; (try simp only [List.cons_append, List.nil_append] at N'); (try dsimp only); (try k_fold))
    
    repeat' ((fail_if_success (with_reducible show wpAny _ _ (pyIter _) _ _ _)); ((first | ((with_reducible show wpAny _ _ (getItem (Value.ref _) (Value.str _ _)) _ _ _); (k_here; k_dflt (refine' three_get ?k1Qz ?k2Qz ?k3Qz ?k4Qz ?_; (case k1Qz => k_asm); (case k2Qz => k_mem); (case k3Qz => assumption); (case k4Qz => assumption); k_whole); intro t9)) | ((with_reducible show wpAny _ _ (call (Value.builtin "dict.get") _) _ _ _); (k_here; (try dsimp only [List.cons_append, List.nil_append]); (with_reducible show wpAny _ _ (call (Value.builtin _) [Value.ref _, Value.str _ _, Value.str _ _]) _ _ _); k_dflt (refine' row_get ?k1Qz ?k2Qz ?k3Qz ?k4Qz ?_; (case k1Qz => k_asm); (case k2Qz => k_mem); (case k3Qz => exact RowsOk.keys (by assumption)); (case k4Qz => assumption); k_whole); intro t9)) | ((with_reducible show wpAny _ _ (getMethod (Value.ref _) _ _) _ _ _); (k_here; (with_reducible show wpAny _ _ (getMethod (Value.ref _) (Str.ofString "get") _) _ _ _); k_dflt (refine' row_method ?k1Qz ?k2Qz PySem.F.slot_dict_get PySem.F.type_dict_get ?_; (case k1Qz => k_asm); (case k2Qz => k_mem); k_whole))) | ((with_reducible show wpAny _ _ (eval (PySem.Expr.ListComp _ _ _ _) _) _ _ _); (k_here; k_dflt (refine ListComp_str (_F₀ := by k_asm) (by rfl) (by decide) (by rfl) (by decide) (by rfl) ?_ (by intro _; rfl)); (try dsimp only))) | ((with_reducible show wpAny _ _ (call (Value.builtin "str.split") _) _ _ _); (k_here; (try dsimp only [List.cons_append, List.nil_append]); (with_reducible show wpAny _ _ (call (Value.builtin _) [Value.str _ _, Value.str _ _]) _ _ _); k_dflt (refine' txt_split ?k1Qz ?k2Qz ?k3Qz ?k4Qz ?_; (case k1Qz => k_asm); (case k2Qz => k_asm); (case k3Qz => rfl); (case k4Qz => omega); k_whole); intro D' h' ws k9 F' N' l1 hs9; (try k_lt l1); (try k_sweep))) | ((with_reducible show wpAny _ _ (subscriptTail _ (PySem.Expr.Slice _ _ _ _) (Value.ref _) (Value.ref _)) _ _ _); (k_here; (with_reducible show wpAny _ _ (subscriptTail _ (PySem.Expr.Slice _ _ none _) (Value.ref _) (Value.ref _)) _ _ _); k_dflt (refine' txt_slice (s := ⟨_, _, _, _, _⟩) ?FQz ?NQz ?mQz ?xQz ?zQz ?pQz ?qQz ?yQz ?_ ?sQz ?tQz; (case FQz => k_asm); (case NQz => k_asm); (case mQz => k_mem); (case xQz => assumption); (case zQz => omega); (case pQz => first | exact IsPart.none | exact IsPart.int _ _); (case qQz => first | exact IsPart.none | exact IsPart.int _ _); (case yQz => first | exact pick_upto1 (by assumption) | exact pick_run1 (by assumption) (by omega) | exact pick_from (by assumption) (by omega)); (case sQz => with_unfolding_all rfl); (case tQz => (intro _; with_unfolding_all rfl)); k_whole); intro D' h' ws F' N' l1 hs9; (try k_lt l1); (try k_sweep))) | ((with_reducible show wpAny _ _ (subscriptTail _ (PySem.Expr.Slice _ _ _ _) (Value.ref _) (Value.ref _)) _ _ _); (k_here; (with_reducible show wpAny _ _ (subscriptTail _ (PySem.Expr.Slice none none (some _) _) (Value.ref _) (Value.ref _)) _ _ _); k_dflt (refine' txt_rev (s := ⟨_, _, _, _, _⟩) ?FQz ?NQz ?mQz ?xQz ?zQz ?kQz ?_ ?sQz ?tQz; (case FQz => k_asm); (case NQz => k_asm); (case mQz => k_mem); (case xQz => assumption); (case zQz => omega); (case kQz => exact IsPart.int _ _); (case sQz => with_unfolding_all rfl); (case tQz => (intro _; with_unfolding_all rfl)); k_whole); intro D' h' ws F' N' l1 hs9; (try k_lt l1); (try k_sweep))) | ((with_reducible show wpAny _ _ (binaryOp Operator.Add (Value.ref _) (Value.ref _)) _ _ _); (k_here; (with_reducible show wpAny _ _ (binaryOp _ (Value.ref _) (Value.ref _)) _ _ _); k_dflt (refine' txt_add ?k1Qz ?k2Qz ?k3Qz ?k4Qz ?k5Qz ?k6Qz ?k7Qz ?_; (case k1Qz => k_asm); (case k2Qz => k_asm); (case k3Qz => k_mem); (case k4Qz => assumption); (case k5Qz => k_mem); (case k6Qz => assumption); (case k7Qz => omega); k_whole); intro D' h' F' N' l1 hs9; (try k_lt l1); (try k_sweep))) | ((with_reducible show wpAny _ _ (call (Value.builtin "list.insert") _) _ _ _); (k_here; (try dsimp only [List.cons_append, List.nil_append]); (with_reducible show wpAny _ _ (call (Value.builtin _) [Value.ref _, Value.int 0 _, Value.str _ _]) _ _ _); k_dflt (refine' txt_insert0 ?k1Qz ?k2Qz ?k3Qz ?k4Qz ?k5Qz ?_; (case k1Qz => k_asm); (case k2Qz => k_asm); (case k5Qz => k_upd); (case k3Qz => assumption); (case k4Qz => omega); k_whole); intro h' F' N' hs9; (try k_sweep))) | ((with_reducible show wpAny _ _ (call (Value.builtin "list.pop") _) _ _ _); (k_here; (try dsimp only [List.cons_append, List.nil_append]); (with_reducible show wpAny _ _ (call (Value.builtin _) [Value.ref _]) _ _ _); k_dflt (refine' txt_pop ?k1Qz ?k2Qz ?k3Qz ?k6Qz ?k4Qz ?k5Qz ?_; (case k1Qz => k_asm); (case k2Qz => k_asm); (case k5Qz => k_upd); (case k3Qz => assumption); (case k4Qz => omega); (case k6Qz => first | assumption | exact ne1 (by assumption) | exact ne2 (by assumption)); k_whole); intro h' t9 F' N' hs9; (try k_sweep))) | ((with_reducible show wpAny _ _ (call (Value.builtin "list.append") _) _ _ _); (k_here; (try dsimp only [List.cons_append, List.nil_append]); (with_reducible show wpAny _ _ (call (Value.builtin _) [Value.ref _, Value.str _ _]) _ _ _); k_dflt (refine' txt_append ?k1Qz ?k2Qz ?k3Qz ?k4Qz ?k5Qz ?_; (case k1Qz => k_asm); (case k2Qz => k_asm); (case k5Qz => k_upd); (case k3Qz => assumption); (case k4Qz => omega); k_whole); intro h' F' N' hs9; (try k_sweep))) | ((with_reducible show wpAny _ _ (call (Value.builtin "str.join") _) _ _ _); (k_here; (try dsimp only [List.cons_append, List.nil_append]); (with_reducible show wpAny _ _ (call (Value.builtin _) [Value.str _ _, Value.ref _]) _ _ _); k_dflt (refine' txt_join ?k1Qz ?k2Qz ?k3Qz ?k4Qz ?_; (case k1Qz => k_asm); (case k2Qz => k_mem); (case k3Qz => assumption); (case k4Qz => first | assumption | omega); k_whole); intro t9 k9)) | ((with_reducible show wpAny _ _ (call (Value.builtin "len") _) _ _ _); (k_here; (with_reducible show wpAny _ _ (call (Value.builtin _) [Value.ref _]) _ _ _); k_dflt (refine' txt_len ?k1Qz ?k2Qz ?k3Qz ?k4Qz ?_; (case k1Qz => k_asm); (case k2Qz => k_mem); (case k3Qz => assumption); (case k4Qz => omega); k_whole))) | ((with_reducible show wpAny _ _ (truthy (Value.ref _)) _ _ _); (k_here; k_dflt (refine' txt_truthy ?k1Qz ?k2Qz ?k3Qz ?k4Qz ?_; (case k1Qz => k_asm); (case k2Qz => k_mem); (case k3Qz => assumption); (case k4Qz => omega); k_whole))) | ((with_reducible show wpAny _ _ (subscriptTail _ _ (Value.ref _) (Value.int _ _)) _ _ _); (k_here; (with_reducible show wpAny _ _ (subscriptTail _ _ (Value.ref _) (Value.int (-1) _)) _ _ _); k_dflt (refine' txt_last ?k1Qz ?k2Qz ?k3Qz ?k4Qz ?_ ?k5Qz ?k6Qz; (case k1Qz => k_asm); (case k2Qz => k_mem); (case k3Qz => assumption); (case k4Qz => first | assumption | exact ne1 (by assumption) | exact ne2 (by assumption)); (case k5Qz => with_unfolding_all rfl); (case k6Qz => (intro _; with_unfolding_all rfl)); k_whole); intro t9)) | ((with_reducible show wpAny _ _ (binaryOp Operator.Add (Value.str _ _) (Value.str _ _)) _ _ _); ((with_reducible show wpAny _ _ (binaryOp Operator.Add (Value.str _ _) (Value.str _ _)) _ _ _); (refine SB.add (hsz := ?hszQz) ?_); (case hszQz => (rw [PySem.sizeLine_eq]; (try simp only [Str.length_append]); omega)); intro t9 k9)) | ((with_reducible show wpAny _ _ (call (Value.builtin "list.append") _) _ _ _); (k_here; (try dsimp only [List.cons_append, List.nil_append]); (with_reducible show wpAny _ _ (call (Value.builtin _) [Value.ref _, _]) _ _ _); k_dflt (refine' append_K ?k1Qz ?k2Qz ?k3Qz ?_ ?zQz; (case k1Qz => k_asm); (case k2Qz => k_asm); (case k3Qz => k_upd); (case zQz => size_fits); k_whole); intro h' F' N'; (try k_sweep))) | walk1) <;> (try dsimp only)))
    rename Fr _ _ _ _ => F1
    rename News _ _ _ _ => N1
    refine ⟨x, t, _, rfl, rfl, F1, N1, by rw [PySem.sizeLine_eq]; exact Nat.le_trans hsz (by decide), ?_⟩
    rintro s₂ ⟨hh, rfl⟩
    refine compRest_of (J := fun i ys => StrsAre ys ((imgs x qs).take i)) ?_ ?_ _ 0 [] (Nat.zero_add _) .nil
    · rintro i v ys I oI C oC D m₂ h tk E' hi ⟨c, u, hc, rfl⟩ hJ hC hx F2 N2 off ne
      dsimp only at F2 N2 ⊢
      cases e3 : img3 c with
      | none =>
        repeat' ((fail_if_success (with_reducible show wpAny _ _ (pyIter _) _ _ _)); ((first | ((with_reducible show wpAny _ _ (getItem (Value.ref _) (Value.str _ _)) _ _ _); (k_here; k_dflt (refine' three_get ?k1Qz ?k2Qz ?k3Qz ?k4Qz ?_; (case k1Qz => k_asm); (case k2Qz => k_mem); (case k3Qz => assumption); (case k4Qz => assumption); k_whole); intro t9)) | ((with_reducible show wpAny _ _ (call (Value.builtin "dict.get") _) _ _ _); (k_here; (try dsimp only [List.cons_append, List.nil_append]); (with_reducible show wpAny _ _ (call (Value.builtin _) [Value.ref _, Value.str _ _, Value.str _ _]) _ _ _); k_dflt (refine' row_get ?k1Qz ?k2Qz ?k3Qz ?k4Qz ?_; (case k1Qz => k_asm); (case k2Qz => k_mem); (case k3Qz => exact RowsOk.keys (by assumption)); (case k4Qz => assumption); k_whole); intro t9)) | ((with_reducible show wpAny _ _ (getMethod (Value.ref _) _ _) _ _ _); (k_here; (with_reducible show wpAny _ _ (getMethod (Value.ref _) (Str.ofString "get") _) _ _ _); k_dflt (refine' row_method ?k1Qz ?k2Qz PySem.F.slot_dict_get PySem.F.type_dict_get ?_; (case k1Qz => k_asm); (case k2Qz => k_mem); k_whole))) | ((with_reducible show wpAny _ _ (eval (PySem.Expr.ListComp _ _ _ _) _) _ _ _); (k_here; k_dflt (refine ListComp_str (_F₀ := by k_asm) (by rfl) (by decide) (by rfl) (by decide) (by rfl) ?_ (by intro _; rfl)); (try dsimp only))) | ((with_reducible show wpAny _ _ (call (Value.builtin "str.split") _) _ _ _); (k_here; (try dsimp only [List.cons_append, List.nil_append]); (with_reducible show wpAny _ _ (call (Value.builtin _) [Value.str _ _, Value.str _ _]) _ _ _); k_dflt (refine' txt_split ?k1Qz ?k2Qz ?k3Qz ?k4Qz ?_; (case k1Qz => k_asm); (case k2Qz => k_asm); (case k3Qz => rfl); (case k4Qz => omega); k_whole); intro D' h' ws k9 F' N' l1 hs9; (try k_lt l1); (try k_sweep))) | ((with_reducible show wpAny _ _ (subscriptTail _ (PySem.Expr.Slice _ _ _ _) (Value.ref _) (Value.ref _)) _ _ _); (k_here; (with_reducible show wpAny _ _ (subscriptTail _ (PySem.Expr.Slice _ _ none _) (Value.ref _) (Value.ref _)) _ _ _); k_dflt (refine' txt_slice (s := ⟨_, _, _, _, _⟩) ?FQz ?NQz ?mQz ?xQz ?zQz ?pQz ?qQz ?yQz ?_ ?sQz ?tQz; (case FQz => k_asm); (case NQz => k_asm); (case mQz => k_mem); (case xQz => assumption); (case zQz => omega); (case pQz => first | exact IsPart.none | exact IsPart.int _ _); (case qQz => first | exact IsPart.none | exact IsPart.int _ _); (case yQz => first | exact pick_upto1 (by assumption) | exact pick_run1 (by assumption) (by omega) | exact pick_from (by assumption) (by omega)); (case sQz => with_unfolding_all rfl); (case tQz => (intro _; with_unfolding_all rfl)); k_whole); intro D' h' ws F' N' l1 hs9; (try k_lt l1); (try k_sweep))) | ((with_reducible show wpAny _ _ (subscriptTail _ (PySem.Expr.Slice _ _ _ _) (Value.ref _) (Value.ref _)) _ _ _); (k_here; (with_reducible show wpAny _ _ (subscriptTail _ (PySem.Expr.Slice none none (some _) _) (Value.ref _) (Value.ref _)) _ _ _); k_dflt (refine' txt_rev (s := ⟨_, _, _, _, _⟩) ?FQz ?NQz ?mQz ?xQz ?zQz ?kQz ?_ ?sQz ?tQz; (case FQz => k_asm); (case NQz => k_asm); (case mQz => k_mem); (case xQz => assumption); (case zQz => omega); (case kQz => exact IsPart.int _ _); (case sQz => with_unfolding_all rfl); (case tQz => (intro _; with_unfolding_all rfl)); k_whole); intro D' h' ws F' N' l1 hs9; (try k_lt l1); (try k_sweep))) | ((with_reducible show wpAny _ _ (binaryOp Operator.Add (Value.ref _) (Value.ref _)) _ _ _); (k_here; (with_reducible show wpAny _ _ (binaryOp _ (Value.ref _) (Value.ref _)) _ _ _); k_dflt (refine' txt_add ?k1Qz ?k2Qz ?k3Qz ?k4Qz ?k5Qz ?k6Qz ?k7Qz ?_; (case k1Qz => k_asm); (case k2Qz => k_asm); (case k3Qz => k_mem); (case k4Qz => assumption); (case k5Qz => k_mem); (case k6Qz => assumption); (case k7Qz => omega); k_whole); intro D' h' F' N' l1 hs9; (try k_lt l1); (try k_sweep))) | ((with_reducible show wpAny _ _ (call (Value.builtin "list.insert") _) _ _ _); (k_here; (try dsimp only [List.cons_append, List.nil_append]); (with_reducible show wpAny _ _ (call (Value.builtin _) [Value.ref _, Value.int 0 _, Value.str _ _]) _ _ _); k_dflt (refine' txt_insert0 ?k1Qz ?k2Qz ?k3Qz ?k4Qz ?k5Qz ?_; (case k1Qz => k_asm); (case k2Qz => k_asm); (case k5Qz => k_upd); (case k3Qz => assumption); (case k4Qz => omega); k_whole); intro h' F' N' hs9; (try k_sweep))) | ((with_reducible show wpAny _ _ (call (Value.builtin "list.pop") _) _ _ _); (k_here; (try dsimp only [List.cons_append, List.nil_append]); (with_reducible show wpAny _ _ (call (Value.builtin _) [Value.ref _]) _ _ _); k_dflt (refine' txt_pop ?k1Qz ?k2Qz ?k3Qz ?k6Qz ?k4Qz ?k5Qz ?_; (case k1Qz => k_asm); (case k2Qz => k_asm); (case k5Qz => k_upd); (case k3Qz => assumption); (case k4Qz => omega); (case k6Qz => first | assumption | exact ne1 (by assumption) | exact ne2 (by assumption)); k_whole); intro h' t9 F' N' hs9; (try k_sweep))) | ((with_reducible show wpAny _ _ (call (Value.builtin "list.append") _) _ _ _); (k_here; (try dsimp only [List.cons_append, List.nil_append]); (with_reducible show wpAny _ _ (call (Value.builtin _) [Value.ref _, Value.str _ _]) _ _ _); k_dflt (refine' txt_append ?k1Qz ?k2Qz ?k3Qz ?k4Qz ?k5Qz ?_; (case k1Qz => k_asm); (case k2Qz => k_asm); (case k5Qz => k_upd); (case k3Qz => assumption); (case k4Qz => omega); k_whole); intro h' F' N' hs9; (try k_sweep))) | ((with_reducible show wpAny _ _ (call (Value.builtin "str.join") _) _ _ _); (k_here; (try dsimp only [List.cons_append, List.nil_append]); (with_reducible show wpAny _ _ (call (Value.builtin _) [Value.str _ _, Value.ref _]) _ _ _); k_dflt (refine' txt_join ?k1Qz ?k2Qz ?k3Qz ?k4Qz ?_; (case k1Qz => k_asm); (case k2Qz => k_mem); (case k3Qz => assumption); (case k4Qz => first | assumption | omega); k_whole); intro t9 k9)) | ((with_reducible show wpAny _ _ (call (Value.builtin "len") _) _ _ _); (k_here; (with_reducible show wpAny _ _ (call (Value.builtin _) [Value.ref _]) _ _ _); k_dflt (refine' txt_len ?k1Qz ?k2Qz ?k3Qz ?k4Qz ?_; (case k1Qz => k_asm); (case k2Qz => k_mem); (case k3Qz => assumption); (case k4Qz => omega); k_whole))) | ((with_reducible show wpAny _ _ (truthy (Value.ref _)) _ _ _); (k_here; k_dflt (refine' txt_truthy ?k1Qz ?k2Qz ?k3Qz ?k4Qz ?_; (case k1Qz => k_asm); (case k2Qz => k_mem); (case k3Qz => assumption); (case k4Qz => omega); k_whole))) | ((with_reducible show wpAny _ _ (subscriptTail _ _ (Value.ref _) (Value.int _ _)) _ _ _); (k_here; (with_reducible show wpAny _ _ (subscriptTail _ _ (Value.ref _) (Value.int (-1) _)) _ _ _); k_dflt (refine' txt_last ?k1Qz ?k2Qz ?k3Qz ?k4Qz ?_ ?k5Qz ?k6Qz; (case k1Qz => k_asm); (case k2Qz => k_mem); (case k3Qz => assumption); (case k4Qz => first | assumption | exact ne1 (by assumption) | exact ne2 (by assumption)); (case k5Qz => with_unfolding_all rfl); (case k6Qz => (intro _; with_unfolding_all rfl)); k_whole); intro t9)) | ((with_reducible show wpAny _ _ (binaryOp Operator.Add (Value.str _ _) (Value.str _ _)) _ _ _); ((with_reducible show wpAny _ _ (binaryOp Operator.Add (Value.str _ _) (Value.str _ _)) _ _ _); (refine SB.add (hsz := ?hszQz) ?_); (case hszQz => (rw [PySem.sizeLine_eq]; (try simp only [Str.length_append]); omega)); intro t9 k9)) | ((with_reducible show wpAny _ _ (call (Value.builtin "list.append") _) _ _ _); (k_here; (try dsimp only [List.cons_append, List.nil_append]); (with_reducible show wpAny _ _ (call (Value.builtin _) [Value.ref _, _]) _ _ _); k_dflt (refine' append_K ?k1Qz ?k2Qz ?k3Qz ?_ ?zQz; (case k1Qz => k_asm); (case k2Qz => k_asm); (case k3Qz => k_upd); (case zQz => size_fits); k_whole); intro h' F' N'; (try k_sweep))) | walk1) <;> (try dsimp only)))
        all_goals (first | (exfalso; rename Option.isSome _ = _ => a9; have b9 := a9.symm.trans (thr_in c); rw [e3] at b9; cases b9; done) | (k_unfold; (rename Fr _ _ _ _ => F9); (rename News _ _ _ _ => N9); exact LCg.CompEnd.intro F9 N9 _ (fun p hp => hp) off trivial ⟨rfl, by rw [imgs_take hc, img1_none e3]; exact snoc_strs hJ _ _⟩))
      | some y =>
        repeat' ((fail_if_success (with_reducible show wpAny _ _ (pyIter _) _ _ _)); ((first | ((with_reducible show wpAny _ _ (getItem (Value.ref _) (Value.str _ _)) _ _ _); (k_here; k_dflt (refine' three_get ?k1Qz ?k2Qz ?k3Qz ?k4Qz ?_; (case k1Qz => k_asm); (case k2Qz => k_mem); (case k3Qz => assumption); (case k4Qz => assumption); k_whole); intro t9)) | ((with_reducible show wpAny _ _ (call (Value.builtin "dict.get") _) _ _ _); (k_here; (try dsimp only [List.cons_append, List.nil_append]); (with_reducible show wpAny _ _ (call (Value.builtin _) [Value.ref _, Value.str _ _, Value.str _ _]) _ _ _); k_dflt (refine' row_get ?k1Qz ?k2Qz ?k3Qz ?k4Qz ?_; (case k1Qz => k_asm); (case k2Qz => k_mem); (case k3Qz => exact RowsOk.keys (by assumption)); (case k4Qz => assumption); k_whole); intro t9)) | ((with_reducible show wpAny _ _ (getMethod (Value.ref _) _ _) _ _ _); (k_here; (with_reducible show wpAny _ _ (getMethod (Value.ref _) (Str.ofString "get") _) _ _ _); k_dflt (refine' row_method ?k1Qz ?k2Qz PySem.F.slot_dict_get PySem.F.type_dict_get ?_; (case k1Qz => k_asm); (case k2Qz => k_mem); k_whole))) | ((with_reducible show wpAny _ _ (eval (PySem.Expr.ListComp _ _ _ _) _) _ _ _); (k_here; k_dflt (refine ListComp_str (_F₀ := by k_asm) (by rfl) (by decide) (by rfl) (by decide) (by rfl) ?_ (by intro _; rfl)); (try dsimp only))) | ((with_reducible show wpAny _ _ (call (Value.builtin "str.split") _) _ _ _); (k_here; (try dsimp only [List.cons_append, List.nil_append]); (with_reducible show wpAny _ _ (call (Value.builtin _) [Value.str _ _, Value.str _ _]) _ _ _); k_dflt (refine' txt_split ?k1Qz ?k2Qz ?k3Qz ?k4Qz ?_; (case k1Qz => k_asm); (case k2Qz => k_asm); (case k3Qz => rfl); (case k4Qz => omega); k_whole); intro D' h' ws k9 F' N' l1 hs9; (try k_lt l1); (try k_sweep))) | ((with_reducible show wpAny _ _ (subscriptTail _ (PySem.Expr.Slice _ _ _ _) (Value.ref _) (Value.ref _)) _ _ _); (k_here; (with_reducible show wpAny _ _ (subscriptTail _ (PySem.Expr.Slice _ _ none _) (Value.ref _) (Value.ref _)) _ _ _); k_dflt (refine' txt_slice (s := ⟨_, _, _, _, _⟩) ?FQz ?NQz ?mQz ?xQz ?zQz ?pQz ?qQz ?yQz ?_ ?sQz ?tQz; (case FQz => k_asm); (case NQz => k_asm); (case mQz => k_mem); (case xQz => assumption); (case zQz => omega); (case pQz => first | exact IsPart.none | exact IsPart.int _ _); (case qQz => first | exact IsPart.none | exact IsPart.int _ _); (case yQz => first | exact pick_upto1 (by assumption) | exact pick_run1 (by assumption) (by omega) | exact pick_from (by assumption) (by omega)); (case sQz => with_unfolding_all rfl); (case tQz => (intro _; with_unfolding_all rfl)); k_whole); intro D' h' ws F' N' l1 hs9; (try k_lt l1); (try k_sweep))) | ((with_reducible show wpAny _ _ (subscriptTail _ (PySem.Expr.Slice _ _ _ _) (Value.ref _) (Value.ref _)) _ _ _); (k_here; (with_reducible show wpAny _ _ (subscriptTail _ (PySem.Expr.Slice none none (some _) _) (Value.ref _) (Value.ref _)) _ _ _); k_dflt (refine' txt_rev (s := ⟨_, _, _, _, _⟩) ?FQz ?NQz ?mQz ?xQz ?zQz ?kQz ?_ ?sQz ?tQz; (case FQz => k_asm); (case NQz => k_asm); (case mQz => k_mem); (case xQz => assumption); (case zQz => omega); (case kQz => exact IsPart.int _ _); (case sQz => with_unfolding_all rfl); (case tQz => (intro _; with_unfolding_all rfl)); k_whole); intro D' h' ws F' N' l1 hs9; (try k_lt l1); (try k_sweep))) | ((with_reducible show wpAny _ _ (binaryOp Operator.Add (Value.ref _) (Value.ref _)) _ _ _); (k_here; (with_reducible show wpAny _ _ (binaryOp _ (Value.ref _) (Value.ref _)) _ _ _); k_dflt (refine' txt_add ?k1Qz ?k2Qz ?k3Qz ?k4Qz ?k5Qz ?k6Qz ?k7Qz ?_; (case k1Qz => k_asm); (case k2Qz => k_asm); (case k3Qz => k_mem); (case k4Qz => assumption); (case k5Qz => k_mem); (case k6Qz => assumption); (case k7Qz => omega); k_whole); intro D' h' F' N' l1 hs9; (try k_lt l1); (try k_sweep))) | ((with_reducible show wpAny _ _ (call (Value.builtin "list.insert") _) _ _ _); (k_here; (try dsimp only [List.cons_append, List.nil_append]); (with_reducible show wpAny _ _ (call (Value.builtin _) [Value.ref _, Value.int 0 _, Value.str _ _]) _ _ _); k_dflt (refine' txt_insert0 ?k1Qz ?k2Qz ?k3Qz ?k4Qz ?k5Qz ?_; (case k1Qz => k_asm); (case k2Qz => k_asm); (case k5Qz => k_upd); (case k3Qz => assumption); (case k4Qz => omega); k_whole); intro h' F' N' hs9; (try k_sweep))) | ((with_reducible show wpAny _ _ (call (Value.builtin "list.pop") _) _ _ _); (k_here; (try dsimp only [List.cons_append, List.nil_append]); (with_reducible show wpAny _ _ (call (Value.builtin _) [Value.ref _]) _ _ _); k_dflt (refine' txt_pop ?k1Qz ?k2Qz ?k3Qz ?k6Qz ?k4Qz ?k5Qz ?_; (case k1Qz => k_asm); (case k2Qz => k_asm); (case k5Qz => k_upd); (case k3Qz => assumption); (case k4Qz => omega); (case k6Qz => first | assumption | exact ne1 (by assumption) | exact ne2 (by assumption)); k_whole); intro h' t9 F' N' hs9; (try k_sweep))) | ((with_reducible show wpAny _ _ (call (Value.builtin "list.append") _) _ _ _); (k_here; (try dsimp only [List.cons_append, List.nil_append]); (with_reducible show wpAny _ _ (call (Value.builtin _) [Value.ref _, Value.str _ _]) _ _ _); k_dflt (refine' txt_append ?k1Qz ?k2Qz ?k3Qz ?k4Qz ?k5Qz ?_; (case k1Qz => k_asm); (case k2Qz => k_asm); (case k5Qz => k_upd); (case k3Qz => assumption); (case k4Qz => omega); k_whole); intro h' F' N' hs9; (try k_sweep))) | ((with_reducible show wpAny _ _ (call (Value.builtin "str.join") _) _ _ _); (k_here; (try dsimp only [List.cons_append, List.nil_append]); (with_reducible show wpAny _ _ (call (Value.builtin _) [Value.str _ _, Value.ref _]) _ _ _); k_dflt (refine' txt_join ?k1Qz ?k2Qz ?k3Qz ?k4Qz ?_; (case k1Qz => k_asm); (case k2Qz => k_mem); (case k3Qz => assumption); (case k4Qz => first | assumption | omega); k_whole); intro t9 k9)) | ((with_reducible show wpAny _ _ (call (Value.builtin "len") _) _ _ _); (k_here; (with_reducible show wpAny _ _ (call (Value.builtin _) [Value.ref _]) _ _ _); k_dflt (refine' txt_len ?k1Qz ?k2Qz ?k3Qz ?k4Qz ?_; (case k1Qz => k_asm); (case k2Qz => k_mem); (case k3Qz => assumption); (case k4Qz => omega); k_whole))) | ((with_reducible show wpAny _ _ (truthy (Value.ref _)) _ _ _); (k_here; k_dflt (refine' txt_truthy ?k1Qz ?k2Qz ?k3Qz ?k4Qz ?_; (case k1Qz => k_asm); (case k2Qz => k_mem); (case k3Qz => assumption); (case k4Qz => omega); k_whole))) | ((with_reducible show wpAny _ _ (subscriptTail _ _ (Value.ref _) (Value.int _ _)) _ _ _); (k_here; (with_reducible show wpAny _ _ (subscriptTail _ _ (Value.ref _) (Value.int (-1) _)) _ _ _); k_dflt (refine' txt_last ?k1Qz ?k2Qz ?k3Qz ?k4Qz ?_ ?k5Qz ?k6Qz; (case k1Qz => k_asm); (case k2Qz => k_mem); (case k3Qz => assumption); (case k4Qz => first | assumption | exact ne1 (by assumption) | exact ne2 (by assumption)); (case k5Qz => with_unfolding_all rfl); (case k6Qz => (intro _; with_unfolding_all rfl)); k_whole); intro t9)) | ((with_reducible show wpAny _ _ (binaryOp Operator.Add (Value.str _ _) (Value.str _ _)) _ _ _); ((with_reducible show wpAny _ _ (binaryOp Operator.Add (Value.str _ _) (Value.str _ _)) _ _ _); (refine SB.add (hsz := ?hszQz) ?_); (case hszQz => (rw [PySem.sizeLine_eq]; (try simp only [Str.length_append]); omega)); intro t9 k9)) | ((with_reducible show wpAny _ _ (call (Value.builtin "list.append") _) _ _ _); (k_here; (try dsimp only [List.cons_append, List.nil_append]); (with_reducible show wpAny _ _ (call (Value.builtin _) [Value.ref _, _]) _ _ _); k_dflt (refine' append_K ?k1Qz ?k2Qz ?k3Qz ?_ ?zQz; (case k1Qz => k_asm); (case k2Qz => k_asm); (case k3Qz => k_upd); (case zQz => size_fits); k_whole); intro h' F' N'; (try k_sweep))) | walk1) <;> (try dsimp only)))
        all_goals (first | (exfalso; rename Option.isSome _ = _ => a9; have b9 := a9.symm.trans (thr_in c); rw [e3] at b9; cases b9; done) | (k_unfold; (rename Fr _ _ _ _ => F9); (rename News _ _ _ _ => N9); exact LCg.CompEnd.intro F9 N9 _ (fun p hp => hp) off trivial ⟨rfl, by rw [imgs_take hc, img1_some e3]; exact snoc_strs hJ _ _⟩))
    · intro ys hJ
      have hl1 := imgs_sum hq x
      have hl2 := imgs_len x qs
      have hz : (Str.ofString "").length = 0 := by decide
      have hok : ((imgs x qs).map (·.length)).sum + (imgs x qs).length * (Str.ofString "").length ≤ 16777216 := by rw [hz]; omega
      replace hJ : StrsAre ys (imgs x qs) := by rw [List.take_of_length_le (by rw [hl2]; exact Nat.le_refl _)] at hJ; exact hJ
      repeat' ((fail_if_success (with_reducible show wpAny _ _ (pyIter _) _ _ _)); ((first | ((with_reducible show wpAny _ _ (getItem (Value.ref _) (Value.str _ _)) _ _ _); (k_here; k_dflt (refine' three_get ?k1Qz ?k2Qz ?k3Qz ?k4Qz ?_; (case k1Qz => k_asm); (case k2Qz => k_mem); (case k3Qz => assumption); (case k4Qz => assumption); k_whole); intro t9)) | ((with_reducible show wpAny _ _ (call (Value.builtin "dict.get") _) _ _ _); (k_here; (try dsimp only [List.cons_append, List.nil_append]); (with_reducible show wpAny _ _ (call (Value.builtin _) [Value.ref _, Value.str _ _, Value.str _ _]) _ _ _); k_dflt (refine' row_get ?k1Qz ?k2Qz ?k3Qz ?k4Qz ?_; (case k1Qz => k_asm); (case k2Qz => k_mem); (case k3Qz => exact RowsOk.keys (by assumption)); (case k4Qz => assumption); k_whole); intro t9)) | ((with_reducible show wpAny _ _ (getMethod (Value.ref _) _ _) _ _ _); (k_here; (with_reducible show wpAny _ _ (getMethod (Value.ref _) (Str.ofString "get") _) _ _ _); k_dflt (refine' row_method ?k1Qz ?k2Qz PySem.F.slot_dict_get PySem.F.type_dict_get ?_; (case k1Qz => k_asm); (case k2Qz => k_mem); k_whole))) | ((with_reducible show wpAny _ _ (eval (PySem.Expr.ListComp _ _ _ _) _) _ _ _); (k_here; k_dflt (refine ListComp_str (_F₀ := by k_asm) (by rfl) (by decide) (by rfl) (by decide) (by rfl) ?_ (by intro _; rfl)); (try dsimp only))) | ((with_reducible show wpAny _ _ (call (Value.builtin "str.split") _) _ _ _); (k_here; (try dsimp only [List.cons_append, List.nil_append]); (with_reducible show wpAny _ _ (call (Value.builtin _) [Value.str _ _, Value.str _ _]) _ _ _); k_dflt (refine' txt_split ?k1Qz ?k2Qz ?k3Qz ?k4Qz ?_; (case k1Qz => k_asm); (case k2Qz => k_asm); (case k3Qz => rfl); (case k4Qz => omega); k_whole); intro D' h' ws k9 F' N' l1 hs9; (try k_lt l1); (try k_sweep))) | ((with_reducible show wpAny _ _ (subscriptTail _ (PySem.Expr.Slice _ _ _ _) (Value.ref _) (Value.ref _)) _ _ _); (k_here; (with_reducible show wpAny _ _ (subscriptTail _ (PySem.Expr.Slice _ _ none _) (Value.ref _) (Value.ref _)) _ _ _); k_dflt (refine' txt_slice (s := ⟨_, _, _, _, _⟩) ?FQz ?NQz ?mQz ?xQz ?zQz ?pQz ?qQz ?yQz ?_ ?sQz ?tQz; (case FQz => k_asm); (case NQz => k_asm); (case mQz => k_mem); (case xQz => assumption); (case zQz => omega); (case pQz => first | exact IsPart.none | exact IsPart.int _ _); (case qQz => first | exact IsPart.none | exact IsPart.int _ _); (case yQz => first | exact pick_upto1 (by assumption) | exact pick_run1 (by assumption) (by omega) | exact pick_from (by assumption) (by omega)); (case sQz => with_unfolding_all rfl); (case tQz => (intro _; with_unfolding_all rfl)); k_whole); intro D' h' ws F' N' l1 hs9; (try k_lt l1); (try k_sweep))) | ((with_reducible show wpAny _ _ (subscriptTail _ (PySem.Expr.Slice _ _ _ _) (Value.ref _) (Value.ref _)) _ _ _); (k_here; (with_reducible show wpAny _ _ (subscriptTail _ (PySem.Expr.Slice none none (some _) _) (Value.ref _) (Value.ref _)) _ _ _); k_dflt (refine' txt_rev (s := ⟨_, _, _, _, _⟩) ?FQz ?NQz ?mQz ?xQz ?zQz ?kQz ?_ ?sQz ?tQz; (case FQz => k_asm); (case NQz => k_asm); (case mQz => k_mem); (case xQz => assumption); (case zQz => omega); (case kQz => exact IsPart.int _ _); (case sQz => with_unfolding_all rfl); (case tQz => (intro _; with_unfolding_all rfl)); k_whole); intro D' h' ws F' N' l1 hs9; (try k_lt l1); (try k_sweep))) | ((with_reducible show wpAny _ _ (binaryOp Operator.Add (Value.ref _) (Value.ref _)) _ _ _); (k_here; (with_reducible show wpAny _ _ (binaryOp _ (Value.ref _) (Value.ref _)) _ _ _); k_dflt (refine' txt_add ?k1Qz ?k2Qz ?k3Qz ?k4Qz ?k5Qz ?k6Qz ?k7Qz ?_; (case k1Qz => k_asm); (case k2Qz => k_asm); (case k3Qz => k_mem); (case k4Qz => assumption); (case k5Qz => k_mem); (case k6Qz => assumption); (case k7Qz => omega); k_whole); intro D' h' F' N' l1 hs9; (try k_lt l1); (try k_sweep))) | ((with_reducible show wpAny _ _ (call (Value.builtin "list.insert") _) _ _ _); (k_here; (try dsimp only [List.cons_append, List.nil_append]); (with_reducible show wpAny _ _ (call (Value.builtin _) [Value.ref _, Value.int 0 _, Value.str _ _]) _ _ _); k_dflt (refine' txt_insert0 ?k1Qz ?k2Qz ?k3Qz ?k4Qz ?k5Qz ?_; (case k1Qz => k_asm); (case k2Qz => k_asm); (case k5Qz => k_upd); (case k3Qz => assumption); (case k4Qz => omega); k_whole); intro h' F' N' hs9; (try k_sweep))) | ((with_reducible show wpAny _ _ (call (Value.builtin "list.pop") _) _ _ _); (k_here; (try dsimp only [List.cons_append, List.nil_append]); (with_reducible show wpAny _ _ (call (Value.builtin _) [Value.ref _]) _ _ _); k_dflt (refine' txt_pop ?k1Qz ?k2Qz ?k3Qz ?k6Qz ?k4Qz ?k5Qz ?_; (case k1Qz => k_asm); (case k2Qz => k_asm); (case k5Qz => k_upd); (case k3Qz => assumption); (case k4Qz => omega); (case k6Qz => first | assumption | exact ne1 (by assumption) | exact ne2 (by assumption)); k_whole); intro h' t9 F' N' hs9; (try k_sweep))) | ((with_reducible show wpAny _ _ (call (Value.builtin "list.append") _) _ _ _); (k_here; (try dsimp only [List.cons_append, List.nil_append]); (with_reducible show wpAny _ _ (call (Value.builtin _) [Value.ref _, Value.str _ _]) _ _ _); k_dflt (refine' txt_append ?k1Qz ?k2Qz ?k3Qz ?k4Qz ?k5Qz ?_; (case k1Qz => k_asm); (case k2Qz => k_asm); (case k5Qz => k_upd); (case k3Qz => assumption); (case k4Qz => omega); k_whole); intro h' F' N' hs9; (try k_sweep))) | ((with_reducible show wpAny _ _ (call (Value.builtin "str.join") _) _ _ _); (k_here; (try dsimp only [List.cons_append, List.nil_append]); (with_reducible show wpAny _ _ (call (Value.builtin _) [Value.str _ _, Value.ref _]) _ _ _); k_dflt (refine' txt_join ?k1Qz ?k2Qz ?k3Qz ?k4Qz ?_; (case k1Qz => k_asm); (case k2Qz => k_mem); (case k3Qz => assumption); (case k4Qz => first | assumption | omega); k_whole); intro t9 k9)) | ((with_reducible show wpAny _ _ (call (Value.builtin "len") _) _ _ _); (k_here; (with_reducible show wpAny _ _ (call (Value.builtin _) [Value.ref _]) _ _ _); k_dflt (refine' txt_len ?k1Qz ?k2Qz ?k3Qz ?k4Qz ?_; (case k1Qz => k_asm); (case k2Qz => k_mem); (case k3Qz => assumption); (case k4Qz => omega); k_whole))) | ((with_reducible show wpAny _ _ (truthy (Value.ref _)) _ _ _); (k_here; k_dflt (refine' txt_truthy ?k1Qz ?k2Qz ?k3Qz ?k4Qz ?_; (case k1Qz => k_asm); (case k2Qz => k_mem); (case k3Qz => assumption); (case k4Qz => omega); k_whole))) | ((with_reducible show wpAny _ _ (subscriptTail _ _ (Value.ref _) (Value.int _ _)) _ _ _); (k_here; (with_reducible show wpAny _ _ (subscriptTail _ _ (Value.ref _) (Value.int (-1) _)) _ _ _); k_dflt (refine' txt_last ?k1Qz ?k2Qz ?k3Qz ?k4Qz ?_ ?k5Qz ?k6Qz; (case k1Qz => k_asm); (case k2Qz => k_mem); (case k3Qz => assumption); (case k4Qz => first | assumption | exact ne1 (by assumption) | exact ne2 (by assumption)); (case k5Qz => with_unfolding_all rfl); (case k6Qz => (intro _; with_unfolding_all rfl)); k_whole); intro t9)) | ((with_reducible show wpAny _ _ (binaryOp Operator.Add (Value.str _ _) (Value.str _ _)) _ _ _); ((with_reducible show wpAny _ _ (binaryOp Operator.Add (Value.str _ _) (Value.str _ _)) _ _ _); (refine SB.add (hsz := ?hszQz) ?_); (case hszQz => (rw [PySem.sizeLine_eq]; (try simp only [Str.length_append]); omega)); intro t9 k9)) | ((with_reducible show wpAny _ _ (call (Value.builtin "list.append") _) _ _ _); (k_here; (try dsimp only [List.cons_append, List.nil_append]); (with_reducible show wpAny _ _ (call (Value.builtin _) [Value.ref _, _]) _ _ _); k_dflt (refine' append_K ?k1Qz ?k2Qz ?k3Qz ?_ ?zQz; (case k1Qz => k_asm); (case k2Qz => k_asm); (case k3Qz => k_upd); (case zQz => size_fits); k_whole); intro h' F' N'; (try k_sweep))) | walk1) <;> (try dsimp only)))
      rename News h₀ _ _ _ => N9
      exact hret _ [] _ _ (by k_asm) (news_drop N9 (fun p hp => .tail _ (.tail _ (.tail _ (.tail _ hp))))) (RStr.of rfl))
end
def plStep (bare : Bool) (qs : List Row4) (st : Nat × List Str) (p : Str) : Nat × List Str :=
  if (p == Str.ofString "") = true ∨ (bare = true ∧ (p == Str.ofString ".") = true) then st
  else if bare = true ∧ (p == Str.ofString "..") = true then (st.1 + 1, st.2)
  else if 0 < st.1 then (st.1 - 1, st.2) else (st.1, imgT p qs :: st.2)
def plFold (bare : Bool) (qs : List Row4) (ps : List Str) : Nat × List Str := ps.foldl (plStep bare qs) (0, [])
def plRoot (f : Str) : Str := if f.length < 3 then f else Str.ofString "/"
def plKept (f : Str) (r : Nat × List Str) : List Str := if (plRoot f).length = 0 then List.replicate r.1 (Str.ofString "..") ++ r.2 else r.2
def plBody (f : Str) (r : Nat × List Str) : Str := plRoot f ++ Txt.join (Str.ofString "/") (plKept f r)
def plainP (f : Str) (ps : List Str) (bare : Bool) (qs : List Row4) : Str := if (plBody f (plFold bare qs ps.reverse)).length = 0 then Str.ofString "." else plBody f (plFold bare qs ps.reverse)
section
variable {prog : Program} {w : World} {A : Around} {E : Value → Shared → Prop} {s : Shared} {h₀ : Heap} {L : Addr} {m : Str → Option Value} {news : Led}
theorem reps (y : Str) (u : Tok) : ∀ n, StrsAre (List.replicate n (.str y u)) (List.replicate n y)
  | 0 => .nil
  | n + 1 => .cons y u (reps y u n)
theorem flat_one {α : Type} (a : α) : ∀ n, (List.replicate n [a]).flatten = List.replicate n a
  | 0 => rfl
  | n + 1 => by rw [List.replicate_succ, List.flatten_cons, flat_one a n]; rfl
theorem txt_mul1 {l : Addr} {y : Str} {u0 u : Tok} {c : Nat} {k : Int} {Q : Value → Shared → Prop} (F : Fr h₀ L s.heap m) (N : News h₀ L s.heap news) (hm : (l, W.listOf #[.str y u0] c) ∈ news) (hk0 : 0 ≤ k) (hk : k ≤ 100000)
    (h : ∀ D h', Fr h₀ L h' m → News h₀ L h' ((D, W.listOf (List.replicate k.toNat (.str y u0)).toArray 0) :: news) → (∀ p ∈ news, p.1 < D) → StrsAre (List.replicate k.toNat (.str y u0)) (List.replicate k.toNat y) → Q (.ref D) { s with heap := h' }) :
    wpAny (model prog w) A (binaryOp .Mult (.ref l) (.int k u)) Q E s := by
  have e : (2 : Nat) ^ 24 = 16777216 := by decide
  refine mul_list F N (N _ hm).1 (by omega) (by omega) (by show 1 * k.toNat ≤ _; omega) fun h' F' N' => ?_
  refine h _ h' F' ?_ (fun p hp => Heap.lt_size (N p hp).1) (reps _ _ _)
  have e2 : List.foldl (fun x1 x2 => x1 ++ x2) #[] (List.replicate (if (#[Value.str y u0]).isEmpty = true then 0 else k.toNat) #[Value.str y u0]) = (List.replicate k.toNat (Value.str y u0)).toArray := by
    have := listMul_foldl_if #[Value.str y u0] k.toNat
    rw [show (#[Value.str y u0] : Array Value).toList = [Value.str y u0] from rfl, flat_one] at this
    exact this
  rw [e2] at N'
  exact N'
end
theorem plFold_take {bare : Bool} {qs : List Row4} {rs : List Str} {i : Nat} {p : Str} (h : rs[i]? = some p) : plFold bare qs (rs.take (i + 1)) = plStep bare qs (plFold bare qs (rs.take i)) p := by
  unfold plFold
  rw [List.take_add_one, h, List.foldl_append]; rfl
theorem plStep_room (bare : Bool) (qs : List Row4) (st : Nat × List Str) (p : Str) : (plStep bare qs st p).1 + (plStep bare qs st p).2.length ≤ st.1 + st.2.length + 1 := by
  unfold plStep; split
  · omega
  · split
    · show st.1 + 1 + st.2.length ≤ _; omega
    · split
      · show st.1 - 1 + st.2.length ≤ _; omega
      · show st.1 + (st.2.length + 1) ≤ _; omega
theorem plFold_room (bare : Bool) (qs : List Row4) : ∀ (rs : List Str) (st : Nat × List Str), (rs.foldl (plStep bare qs) st).1 + (rs.foldl (plStep bare qs) st).2.length ≤ st.1 + st.2.length + rs.length
  | [], st => Nat.le_refl _
  | p :: r, st => by
    have h1 := plFold_room bare qs r (plStep bare qs st p)
    have h2 := plStep_room bare qs st p
    rw [List.foldl_cons, List.length_cons]; omega
theorem imgT_len {qs : List Row4} (hq : RowsOk qs) (x : Str) : (imgT x qs).length ≤ 5 * x.length := by
  have h1 := txt_join_len (Str.ofString "") (imgs x qs)
  have hz : (Str.ofString "").length = 0 := by decide
  have h2 := imgs_sum hq x
  rw [hz, Nat.mul_zero, Nat.add_zero] at h1
  exact Nat.le_trans h1 h2
theorem plFold_sum {bare : Bool} {qs : List Row4} (hq : RowsOk qs) : ∀ (rs : List Str) (st : Nat × List Str), ((rs.foldl (plStep bare qs) st).2.map (·.length)).sum ≤ (st.2.map (·.length)).sum + 5 * (rs.map (·.length)).sum
  | [], st => by simp
  | p :: r, st => by
    have h1 := plFold_sum (bare := bare) hq r (plStep bare qs st p)
    have h2 : ((plStep bare qs st p).2.map (·.length)).sum ≤ (st.2.map (·.length)).sum + 5 * p.length := by
      unfold plStep; split
      · omega
      · split
        · show (st.2.map (·.length)).sum ≤ _; omega
        · split
          · show (st.2.map (·.length)).sum ≤ _; omega
          · have := imgT_len hq p
            simp only [List.map_cons, List.sum_cons]; omega
    rw [List.foldl_cons, List.map_cons, List.sum_cons]; omega
theorem sum_rev (ps : List Str) : (ps.reverse.map (·.length)).sum = (ps.map (·.length)).sum := by
  rw [List.map_reverse, List.sum_reverse]
theorem sum_reps (y : Str) : ∀ n, ((List.replicate n y).map (·.length)).sum = n * y.length
  | 0 => by simp
  | n + 1 => by rw [List.replicate_succ, List.map_cons, List.sum_cons, sum_reps y n, Nat.succ_mul]; omega
theorem len_emp (x : Str) : (x == Str.ofString "") = true ↔ x.length = 0 := by
  rw [beq_iff_eq]
  constructor
  · rintro rfl; decide
  · intro h; exact cl_inj (by rw [cl_emp]; exact List.length_eq_zero_iff.mp (by rw [cl_len]; exact h))
theorem pl_ret {f : Str} {ps : List Str} {bare b : Bool} {qs : List Row4} {z : Str} (hz : plBody f (plFold bare qs ps.reverse) = z) (h : (z != Str.ofString "") = b) : (if b = true then z else Str.ofString ".") = plainP f ps bare qs := by
  unfold plainP
  rw [hz]
  cases b with
  | true =>
    have : ¬ z.length = 0 := fun e => by
      have := (len_emp z).mpr e
      unfold bne at h; rw [this] at h; cases h
    rw [if_neg this]; rfl
  | false =>
    have : z.length = 0 := (len_emp z).mp (by unfold bne at h; simpa using h)
    rw [if_pos this]; rfl
theorem pl_bodyA {f : Str} {r : Nat × List Str} {k : Int} {ys : List Str} (hk : k = (r.1 : Int)) (hy : ys = r.2) (h1 : f.length < 3) (h2 : (f == Str.ofString "") = true) : plBody f r = f ++ Txt.join (Str.ofString "/") (List.replicate k.toNat (Str.ofString "..") ++ ys) := by
  have h3 := (len_emp f).mp h2
  unfold plBody plKept plRoot
  rw [if_pos h1, if_pos h3, hk, hy, Int.toNat_natCast]
theorem pl_bodyB {f : Str} {r : Nat × List Str} {ys : List Str} (hy : ys = r.2) (h1 : f.length < 3) (h2 : (f == Str.ofString "") = false) : plBody f r = f ++ Txt.join (Str.ofString "/") ys := by
  have h3 : ¬ f.length = 0 := fun e => by rw [(len_emp f).mpr e] at h2; cases h2
  unfold plBody plKept plRoot
  rw [if_pos h1, if_neg h3, hy]
theorem pl_bodyC {f : Str} {r : Nat × List Str} {ys : List Str} (hy : ys = r.2) (h1 : ¬ f.length < 3) : plBody f r = Str.ofString "/" ++ Txt.join (Str.ofString "/") ys := by
  have h3 : ¬ (Str.ofString "/").length = 0 := by decide
  unfold plBody plKept plRoot
  rw [if_neg h1, if_neg h3, hy]
theorem plain_ok {w : World} {mean : ExcName → Option Value} {mg mb : Str → Option Value} {news : List (Addr × Obj)} (f : Str) (t : Tok) (l : Addr) (vs : List Value) (c : Nat) (ps : List Str) (hv : StrsAre vs ps) (hl : (l, W.listOf vs.toArray c) ∈ news) (bare : Bool) (d : Addr) (qs : List Row4) (ep : Nat) (hm : (d, dObj w qs ep) ∈ news) (hq : RowsOk qs) (lo : (d == sysModules) = false) (hf : f.length ≤ 1000) (hsz : (ps.map (·.length)).sum + ps.length ≤ 1000) :
    Tells w mean mg mb 0 7 120 187 news [.str f t, .ref l, .bool bare, .ref d] (RStr (plainP f ps bare qs)) := by
  w_on
  w_strict (
    refine Tells.of ?_
    unfold Tells0
    k_fill
    intro dp un gd cn cs a ccd cl outer A₀ base h₀ L m s Q E B F X N T hk hd hu htk hret
    refine wpAny_call ?_
    k_dflt cell_enter
    have hn : ps.length ≤ 10000 := by omega
    repeat' ((fail_if_success (with_reducible show wpAny _ _ (pyIter _) _ _ _)); ((first | ((with_reducible show wpAny _ _ (binaryOp Operator.Mult (Value.ref _) (Value.int _ _)) _ _ _); (k_here; (with_reducible show wpAny _ _ (binaryOp _ (Value.ref _) (Value.int _ _)) _ _ _); k_dflt (refine' txt_mul1 ?k1Qz ?k2Qz ?k3Qz ?k4Qz ?k5Qz ?_; (case k1Qz => k_asm); (case k2Qz => k_asm); (case k3Qz => k_mem); (case k4Qz => omega); (case k5Qz => omega); k_whole); intro D' h' F' N' l1 hs9; (try k_lt l1); (try k_sweep))) | ((with_reducible show wpAny _ _ (call (Value.ref 173) _) _ _ _); (k_here; k_dflt (refine' Tells.useS ?k1Qz ?k2Qz ?k3Qz ?k4Qz ?k5Qz ?k6Qz ?kcQz ?k7Qz ?k8Qz ?k9Qz ?_; (case k1Qz => k_asm); (case k2Qz => k_asm); (case k3Qz => k_asm); (case k4Qz => k_asm); (case k5Qz => k_asm); (case kcQz => exact image_ok _ _ _ _ _ (by k_mem) (by assumption) (by assumption) (by omega)); (case k6Qz => first | exact rfl | assumption); (case k7Qz => ktr_room); (case k8Qz => ktr_units); (case k9Qz => first | exact Nat.zero_le _ | ((try dsimp only); omega)); k_whole; intro t9 h9 tk9 F9 N9 htk9))) | ((with_reducible show wpAny _ _ (call (Value.builtin "str.split") _) _ _ _); (k_here; (try dsimp only [List.cons_append, List.nil_append]); (with_reducible show wpAny _ _ (call (Value.builtin _) [Value.str _ _, Value.str _ _]) _ _ _); k_dflt (refine' txt_split ?k1Qz ?k2Qz ?k3Qz ?k4Qz ?_; (case k1Qz => k_asm); (case k2Qz => k_asm); (case k3Qz => rfl); (case k4Qz => omega); k_whole); intro D' h' ws k9 F' N' l1 hs9; (try k_lt l1); (try k_sweep))) | ((with_reducible show wpAny _ _ (subscriptTail _ (PySem.Expr.Slice _ _ _ _) (Value.ref _) (Value.ref _)) _ _ _); (k_here; (with_reducible show wpAny _ _ (subscriptTail _ (PySem.Expr.Slice _ _ none _) (Value.ref _) (Value.ref _)) _ _ _); k_dflt (refine' txt_slice (s := ⟨_, _, _, _, _⟩) ?FQz ?NQz ?mQz ?xQz ?zQz ?pQz ?qQz ?yQz ?_ ?sQz ?tQz; (case FQz => k_asm); (case NQz => k_asm); (case mQz => k_mem); (case xQz => assumption); (case zQz => omega); (case pQz => first | exact IsPart.none | exact IsPart.int _ _); (case qQz => first | exact IsPart.none | exact IsPart.int _ _); (case yQz => first | exact pick_upto1 (by assumption) | exact pick_run1 (by assumption) (by omega) | exact pick_from (by assumption) (by omega)); (case sQz => with_unfolding_all rfl); (case tQz => (intro _; with_unfolding_all rfl)); k_whole); intro D' h' ws F' N' l1 hs9; (try k_lt l1); (try k_sweep))) | ((with_reducible show wpAny _ _ (subscriptTail _ (PySem.Expr.Slice _ _ _ _) (Value.ref _) (Value.ref _)) _ _ _); (k_here; (with_reducible show wpAny _ _ (subscriptTail _ (PySem.Expr.Slice none none (some _) _) (Value.ref _) (Value.ref _)) _ _ _); k_dflt (refine' txt_rev (s := ⟨_, _, _, _, _⟩) ?FQz ?NQz ?mQz ?xQz ?zQz ?kQz ?_ ?sQz ?tQz; (case FQz => k_asm); (case NQz => k_asm); (case mQz => k_mem); (case xQz => assumption); (case zQz => omega); (case kQz => exact IsPart.int _ _); (case sQz => with_unfolding_all rfl); (case tQz => (intro _; with_unfolding_all rfl)); k_whole); intro D' h' ws F' N' l1 hs9; (try k_lt l1); (try k_sweep))) | ((with_reducible show wpAny _ _ (binaryOp Operator.Add (Value.ref _) (Value.ref _)) _ _ _); (k_here; (with_reducible show wpAny _ _ (binaryOp _ (Value.ref _) (Value.ref _)) _ _ _); k_dflt (refine' txt_add ?k1Qz ?k2Qz ?k3Qz ?k4Qz ?k5Qz ?k6Qz ?k7Qz ?_; (case k1Qz => k_asm); (case k2Qz => k_asm); (case k3Qz => k_mem); (case k4Qz => assumption); (case k5Qz => k_mem); (case k6Qz => assumption); (case k7Qz => omega); k_whole); intro D' h' F' N' l1 hs9; (try k_lt l1); (try k_sweep))) | ((with_reducible show wpAny _ _ (call (Value.builtin "list.insert") _) _ _ _); (k_here; (try dsimp only [List.cons_append, List.nil_append]); (with_reducible show wpAny _ _ (call (Value.builtin _) [Value.ref _, Value.int 0 _, Value.str _ _]) _ _ _); k_dflt (refine' txt_insert0 ?k1Qz ?k2Qz ?k3Qz ?k4Qz ?k5Qz ?_; (case k1Qz => k_asm); (case k2Qz => k_asm); (case k5Qz => k_upd); (case k3Qz => assumption); (case k4Qz => omega); k_whole); intro h' F' N' hs9; (try k_sweep))) | ((with_reducible show wpAny _ _ (call (Value.builtin "list.pop") _) _ _ _); (k_here; (try dsimp only [List.cons_append, List.nil_append]); (with_reducible show wpAny _ _ (call (Value.builtin _) [Value.ref _]) _ _ _); k_dflt (refine' txt_pop ?k1Qz ?k2Qz ?k3Qz ?k6Qz ?k4Qz ?k5Qz ?_; (case k1Qz => k_asm); (case k2Qz => k_asm); (case k5Qz => k_upd); (case k3Qz => assumption); (case k4Qz => omega); (case k6Qz => first | assumption | exact ne1 (by assumption) | exact ne2 (by assumption)); k_whole); intro h' t9 F' N' hs9; (try k_sweep))) | ((with_reducible show wpAny _ _ (call (Value.builtin "list.append") _) _ _ _); (k_here; (try dsimp only [List.cons_append, List.nil_append]); (with_reducible show wpAny _ _ (call (Value.builtin _) [Value.ref _, Value.str _ _]) _ _ _); k_dflt (refine' txt_append ?k1Qz ?k2Qz ?k3Qz ?k4Qz ?k5Qz ?_; (case k1Qz => k_asm); (case k2Qz => k_asm); (case k5Qz => k_upd); (case k3Qz => assumption); (case k4Qz => omega); k_whole); intro h' F' N' hs9; (try k_sweep))) | ((with_reducible show wpAny _ _ (call (Value.builtin "str.join") _) _ _ _); (k_here; (try dsimp only [List.cons_append, List.nil_append]); (with_reducible show wpAny _ _ (call (Value.builtin _) [Value.str _ _, Value.ref _]) _ _ _); k_dflt (refine' txt_join ?k1Qz ?k2Qz ?k3Qz ?k4Qz ?_; (case k1Qz => k_asm); (case k2Qz => k_mem); (case k3Qz => assumption); (case k4Qz => first | assumption | omega); k_whole); intro t9 k9)) | ((with_reducible show wpAny _ _ (call (Value.builtin "len") _) _ _ _); (k_here; (with_reducible show wpAny _ _ (call (Value.builtin _) [Value.ref _]) _ _ _); k_dflt (refine' txt_len ?k1Qz ?k2Qz ?k3Qz ?k4Qz ?_; (case k1Qz => k_asm); (case k2Qz => k_mem); (case k3Qz => assumption); (case k4Qz => omega); k_whole))) | ((with_reducible show wpAny _ _ (truthy (Value.ref _)) _ _ _); (k_here; k_dflt (refine' txt_truthy ?k1Qz ?k2Qz ?k3Qz ?k4Qz ?_; (case k1Qz => k_asm); (case k2Qz => k_mem); (case k3Qz => assumption); (case k4Qz => omega); k_whole))) | ((with_reducible show wpAny _ _ (subscriptTail _ _ (Value.ref _) (Value.int _ _)) _ _ _); (k_here; (with_reducible show wpAny _ _ (subscriptTail _ _ (Value.ref _) (Value.int (-1) _)) _ _ _); k_dflt (refine' txt_last ?k1Qz ?k2Qz ?k3Qz ?k4Qz ?_ ?k5Qz ?k6Qz; (case k1Qz => k_asm); (case k2Qz => k_mem); (case k3Qz => assumption); (case k4Qz => first | assumption | exact ne1 (by assumption) | exact ne2 (by assumption)); (case k5Qz => with_unfolding_all rfl); (case k6Qz => (intro _; with_unfolding_all rfl)); k_whole); intro t9)) | ((with_reducible show wpAny _ _ (binaryOp Operator.Add (Value.str _ _) (Value.str _ _)) _ _ _); ((with_reducible show wpAny _ _ (binaryOp Operator.Add (Value.str _ _) (Value.str _ _)) _ _ _); (refine SB.add (hsz := ?hszQz) ?_); (case hszQz => (rw [PySem.sizeLine_eq]; (try simp only [Str.length_append]); omega)); intro t9 k9)) | ((with_reducible show wpAny _ _ (call (Value.builtin "list.append") _) _ _ _); (k_here; (try dsimp only [List.cons_append, List.nil_append]); (with_reducible show wpAny _ _ (call (Value.builtin _) [Value.ref _, _]) _ _ _); k_dflt (refine' append_K ?k1Qz ?k2Qz ?k3Qz ?_ ?zQz; (case k1Qz => k_asm); (case k2Qz => k_asm); (case k3Qz => k_upd); (case zQz => size_fits); k_whole); intro h' F' N'; (try k_sweep))) | ((with_reducible show wpAny _ _ (exec (PySem.Stmt.For (PySem.Expr.Name _ _) (PySem.Expr.Subscript _ _ _) _ _ _) _) _ _ _); (k_here; (rename Fr _ _ _ _ => lF'); (with_unfolding_all refine' For_invVF lF' ?k1Qz ?k2Qz ?_; (case k1Qz => exact rfl); (case k2Qz => exact rfl); k_whole))) | ((with_reducible show wpAny _ _ (exec (PySem.Stmt.For (PySem.Expr.Name _ _) (PySem.Expr.Call _ _ _ _) _ _ _) _) _ _ _); (k_here; (rename Fr _ _ _ _ => lF'); (with_unfolding_all refine' For_invVF lF' ?k1Qz ?k2Qz ?_; (case k1Qz => exact rfl); (case k2Qz => exact rfl); k_whole))) | ((with_reducible show wpAny _ _ (exec (PySem.Stmt.For (PySem.Expr.Name _ _) (PySem.Expr.Name _ _) _ _ _) _) _ _ _); (k_here; (rename Fr _ _ _ _ => lF'); (with_unfolding_all refine' For_invVF lF' ?k1Qz ?k2Qz ?_; (case k1Qz => exact rfl); (case k2Qz => exact rfl); k_whole))) | walk1) <;> (try dsimp only)))
    rename StrsAre _ (List.reverse _) => hws
    rename News _ _ _ _ => N1
    rename Fr _ _ _ _ => F1
    rename _ < _ ∧ AllLt _ news => hl1
    have hl1 := hl1.1
    rename (∀ p, p ∈ news → p.1 < _) => hl0
    refine iter_list (σ := Int × Tok × List Value × List Str × Nat) (fun st m z => if z = Str.ofString "debt" then some (.int st.1 st.2.1) else m z) (fun st => (_, W.listOf _ 0) :: (_, W.listOf st.2.2.1.toArray st.2.2.2.2) :: news) (fun i st => StrsAre st.2.2.1 st.2.2.2.1 ∧ st.1 = ((plFold bare qs (ps.reverse.take i)).1 : Int) ∧ st.2.2.2.1 = (plFold bare qs (ps.reverse.take i)).2) (0, _, [], [], 0) (_ :: _ :: news.map (·.1)) rfl F1 N1 (.head _) (fun st => rfl) (upd1 rfl) (fun p hp => hp) ⟨.nil, rfl, rfl⟩ ?_ ?_
    · rintro i v ⟨k, tk1, us, ys, c1⟩ h tk own hv' ⟨hs, hy1, hy2⟩ hoff F2 N2
      clear N1 F1
      obtain ⟨p, tp, rfl, hpi, hpm⟩ := strs_get hws hv'
      have hpl := len_le_sum (List.mem_reverse.mp hpm)
      have hroom := plFold_room bare qs (ps.reverse.take i) (0, [])
      dsimp only [List.cons_append] at F2 N2 hs hy1 hy2 hoff ⊢
      replace hroom : (plFold bare qs (ps.reverse.take i)).1 + (plFold bare qs (ps.reverse.take i)).2.length ≤ 0 + 0 + (ps.reverse.take i).length := hroom
      have hyl : ys.length = (plFold bare qs (ps.reverse.take i)).2.length := by rw [hy2]
      have hlt : (ps.reverse.take i).length ≤ ps.length := by rw [List.length_take, List.length_reverse]; omega
      have hyn : ys.length ≤ 100000 := by omega
      have hne' := off_append (ne_of_ltAll hl0) (hoff _ (.tail _ (.head _)) (Nat.ne_of_lt hl1))
      (with_reducible show wpAny _ _ _ _ _ _)
      k_fold
      repeat' ((fail_if_success (with_reducible show wpAny _ _ (pyIter _) _ _ _)); ((first | ((with_reducible show wpAny _ _ (binaryOp Operator.Mult (Value.ref _) (Value.int _ _)) _ _ _); (k_here; (with_reducible show wpAny _ _ (binaryOp _ (Value.ref _) (Value.int _ _)) _ _ _); k_dflt (refine' txt_mul1 ?k1Qz ?k2Qz ?k3Qz ?k4Qz ?k5Qz ?_; (case k1Qz => k_asm); (case k2Qz => k_asm); (case k3Qz => k_mem); (case k4Qz => omega); (case k5Qz => omega); k_whole); intro D' h' F' N' l1 hs9; (try k_lt l1); (try k_sweep))) | ((with_reducible show wpAny _ _ (call (Value.ref 173) _) _ _ _); (k_here; k_dflt (refine' Tells.useS ?k1Qz ?k2Qz ?k3Qz ?k4Qz ?k5Qz ?k6Qz ?kcQz ?k7Qz ?k8Qz ?k9Qz ?_; (case k1Qz => k_asm); (case k2Qz => k_asm); (case k3Qz => k_asm); (case k4Qz => k_asm); (case k5Qz => k_asm); (case kcQz => exact image_ok _ _ _ _ _ (by k_mem) (by assumption) (by assumption) (by omega)); (case k6Qz => first | exact rfl | assumption); (case k7Qz => ktr_room); (case k8Qz => ktr_units); (case k9Qz => first | exact Nat.zero_le _ | ((try dsimp only); omega)); k_whole; intro t9 h9 tk9 F9 N9 htk9))) | ((with_reducible show wpAny _ _ (call (Value.builtin "str.split") _) _ _ _); (k_here; (try dsimp only [List.cons_append, List.nil_append]); (with_reducible show wpAny _ _ (call (Value.builtin _) [Value.str _ _, Value.str _ _]) _ _ _); k_dflt (refine' txt_split ?k1Qz ?k2Qz ?k3Qz ?k4Qz ?_; (case k1Qz => k_asm); (case k2Qz => k_asm); (case k3Qz => rfl); (case k4Qz => omega); k_whole); intro D' h' ws k9 F' N' l1 hs9; (try k_lt l1); (try k_sweep))) | ((with_reducible show wpAny _ _ (subscriptTail _ (PySem.Expr.Slice _ _ _ _) (Value.ref _) (Value.ref _)) _ _ _); (k_here; (with_reducible show wpAny _ _ (subscriptTail _ (PySem.Expr.Slice _ _ none _) (Value.ref _) (Value.ref _)) _ _ _); k_dflt (refine' txt_slice (s := ⟨_, _, _, _, _⟩) ?FQz ?NQz ?mQz ?xQz ?zQz ?pQz ?qQz ?yQz ?_ ?sQz ?tQz; (case FQz => k_asm); (case NQz => k_asm); (case mQz => k_mem); (case xQz => assumption); (case zQz => omega); (case pQz => first | exact IsPart.none | exact IsPart.int _ _); (case qQz => first | exact IsPart.none | exact IsPart.int _ _); (case yQz => first | exact pick_upto1 (by assumption) | exact pick_run1 (by assumption) (by omega) | exact pick_from (by assumption) (by omega)); (case sQz => with_unfolding_all rfl); (case tQz => (intro _; with_unfolding_all rfl)); k_whole); intro D' h' ws F' N' l1 hs9; (try k_lt l1); (try k_sweep))) | ((with_reducible show wpAny _ _ (subscriptTail _ (PySem.Expr.Slice _ _ _ _) (Value.ref _) (Value.ref _)) _ _ _); (k_here; (with_reducible show wpAny _ _ (subscriptTail _ (PySem.Expr.Slice none none (some _) _) (Value.ref _) (Value.ref _)) _ _ _); k_dflt (refine' txt_rev (s := ⟨_, _, _, _, _⟩) ?FQz ?NQz ?mQz ?xQz ?zQz ?kQz ?_ ?sQz ?tQz; (case FQz => k_asm); (case NQz => k_asm); (case mQz => k_mem); (case xQz => assumption); (case zQz => omega); (case kQz => exact IsPart.int _ _); (case sQz => with_unfolding_all rfl); (case tQz => (intro _; with_unfolding_all rfl)); k_whole); intro D' h' ws F' N' l1 hs9; (try k_lt l1); (try k_sweep))) | ((with_reducible show wpAny _ _ (binaryOp Operator.Add (Value.ref _) (Value.ref _)) _ _ _); (k_here; (with_reducible show wpAny _ _ (binaryOp _ (Value.ref _) (Value.ref _)) _ _ _); k_dflt (refine' txt_add ?k1Qz ?k2Qz ?k3Qz ?k4Qz ?k5Qz ?k6Qz ?k7Qz ?_; (case k1Qz => k_asm); (case k2Qz => k_asm); (case k3Qz => k_mem); (case k4Qz => assumption); (case k5Qz => k_mem); (case k6Qz => assumption); (case k7Qz => omega); k_whole); intro D' h' F' N' l1 hs9; (try k_lt l1); (try k_sweep))) | ((with_reducible show wpAny _ _ (call (Value.builtin "list.insert") _) _ _ _); (k_here; (try dsimp only [List.cons_append, List.nil_append]); (with_reducible show wpAny _ _ (call (Value.builtin _) [Value.ref _, Value.int 0 _, Value.str _ _]) _ _ _); k_dflt (refine' txt_insert0 ?k1Qz ?k2Qz ?k3Qz ?k4Qz ?k5Qz ?_; (case k1Qz => k_asm); (case k2Qz => k_asm); (case k5Qz => k_upd); (case k3Qz => assumption); (case k4Qz => omega); k_whole); intro h' F' N' hs9; (try k_sweep))) | ((with_reducible show wpAny _ _ (call (Value.builtin "list.pop") _) _ _ _); (k_here; (try dsimp only [List.cons_append, List.nil_append]); (with_reducible show wpAny _ _ (call (Value.builtin _) [Value.ref _]) _ _ _); k_dflt (refine' txt_pop ?k1Qz ?k2Qz ?k3Qz ?k6Qz ?k4Qz ?k5Qz ?_; (case k1Qz => k_asm); (case k2Qz => k_asm); (case k5Qz => k_upd); (case k3Qz => assumption); (case k4Qz => omega); (case k6Qz => first | assumption | exact ne1 (by assumption) | exact ne2 (by assumption)); k_whole); intro h' t9 F' N' hs9; (try k_sweep))) | ((with_reducible show wpAny _ _ (call (Value.builtin "list.append") _) _ _ _); (k_here; (try dsimp only [List.cons_append, List.nil_append]); (with_reducible show wpAny _ _ (call (Value.builtin _) [Value.ref _, Value.str _ _]) _ _ _); k_dflt (refine' txt_append ?k1Qz ?k2Qz ?k3Qz ?k4Qz ?k5Qz ?_; (case k1Qz => k_asm); (case k2Qz => k_asm); (case k5Qz => k_upd); (case k3Qz => assumption); (case k4Qz => omega); k_whole); intro h' F' N' hs9; (try k_sweep))) | ((with_reducible show wpAny _ _ (call (Value.builtin "str.join") _) _ _ _); (k_here; (try dsimp only [List.cons_append, List.nil_append]); (with_reducible show wpAny _ _ (call (Value.builtin _) [Value.str _ _, Value.ref _]) _ _ _); k_dflt (refine' txt_join ?k1Qz ?k2Qz ?k3Qz ?k4Qz ?_; (case k1Qz => k_asm); (case k2Qz => k_mem); (case k3Qz => assumption); (case k4Qz => first | assumption | omega); k_whole); intro t9 k9)) | ((with_reducible show wpAny _ _ (call (Value.builtin "len") _) _ _ _); (k_here; (with_reducible show wpAny _ _ (call (Value.builtin _) [Value.ref _]) _ _ _); k_dflt (refine' txt_len ?k1Qz ?k2Qz ?k3Qz ?k4Qz ?_; (case k1Qz => k_asm); (case k2Qz => k_mem); (case k3Qz => assumption); (case k4Qz => omega); k_whole))) | ((with_reducible show wpAny _ _ (truthy (Value.ref _)) _ _ _); (k_here; k_dflt (refine' txt_truthy ?k1Qz ?k2Qz ?k3Qz ?k4Qz ?_; (case k1Qz => k_asm); (case k2Qz => k_mem); (case k3Qz => assumption); (case k4Qz => omega); k_whole))) | ((with_reducible show wpAny _ _ (subscriptTail _ _ (Value.ref _) (Value.int _ _)) _ _ _); (k_here; (with_reducible show wpAny _ _ (subscriptTail _ _ (Value.ref _) (Value.int (-1) _)) _ _ _); k_dflt (refine' txt_last ?k1Qz ?k2Qz ?k3Qz ?k4Qz ?_ ?k5Qz ?k6Qz; (case k1Qz => k_asm); (case k2Qz => k_mem); (case k3Qz => assumption); (case k4Qz => first | assumption | exact ne1 (by assumption) | exact ne2 (by assumption)); (case k5Qz => with_unfolding_all rfl); (case k6Qz => (intro _; with_unfolding_all rfl)); k_whole); intro t9)) | ((with_reducible show wpAny _ _ (binaryOp Operator.Add (Value.str _ _) (Value.str _ _)) _ _ _); ((with_reducible show wpAny _ _ (binaryOp Operator.Add (Value.str _ _) (Value.str _ _)) _ _ _); (refine SB.add (hsz := ?hszQz) ?_); (case hszQz => (rw [PySem.sizeLine_eq]; (try simp only [Str.length_append]); omega)); intro t9 k9)) | ((with_reducible show wpAny _ _ (call (Value.builtin "list.append") _) _ _ _); (k_here; (try dsimp only [List.cons_append, List.nil_append]); (with_reducible show wpAny _ _ (call (Value.builtin _) [Value.ref _, _]) _ _ _); k_dflt (refine' append_K ?k1Qz ?k2Qz ?k3Qz ?_ ?zQz; (case k1Qz => k_asm); (case k2Qz => k_asm); (case k3Qz => k_upd); (case zQz => size_fits); k_whole); intro h' F' N'; (try k_sweep))) | ((with_reducible show wpAny _ _ (exec (PySem.Stmt.For (PySem.Expr.Name _ _) (PySem.Expr.Subscript _ _ _) _ _ _) _) _ _ _); (k_here; (rename Fr _ _ _ _ => lF'); (with_unfolding_all refine' For_invVF lF' ?k1Qz ?k2Qz ?_; (case k1Qz => exact rfl); (case k2Qz => exact rfl); k_whole))) | ((with_reducible show wpAny _ _ (exec (PySem.Stmt.For (PySem.Expr.Name _ _) (PySem.Expr.Call _ _ _ _) _ _ _) _) _ _ _); (k_here; (rename Fr _ _ _ _ => lF'); (with_unfolding_all refine' For_invVF lF' ?k1Qz ?k2Qz ?_; (case k1Qz => exact rfl); (case k2Qz => exact rfl); k_whole))) | ((with_reducible show wpAny _ _ (exec (PySem.Stmt.For (PySem.Expr.Name _ _) (PySem.Expr.Name _ _) _ _ _) _) _ _ _); (k_here; (rename Fr _ _ _ _ => lF'); (with_unfolding_all refine' For_invVF lF' ?k1Qz ?k2Qz ?_; (case k1Qz => exact rfl); (case k2Qz => exact rfl); k_whole))) | walk1) <;> (try dsimp only)))
      all_goals (
        (try k_unfold); (try dsimp only [StPost]); rename Fr _ _ _ _ => F9; rename News _ _ _ _ => N9
        refine' StEnd.intro (_, _, _, _, _) F9 N9 (mem2 (List.Mem.head _) (mem2 (.tail _ (.head _)) fun p hp => .tail _ (.tail _ (List.mem_append_left _ hp)))) (fun p hp => .tail _ (.tail _ (List.mem_append_right _ hp))) (feq1 rfl (fun z hx ha => by simp only [if_neg hx, if_neg ha])) ⟨by assumption, ?_, ?_⟩
        all_goals ((try dsimp only); rw [plFold_take hpi]; (try clear F9); (try clear N9); (try clear F2); (try clear N2); (try clear hret); (try clear B); (try clear X); (try clear T); (try clear N); (try clear F); (try clear hm); (try clear hl); (try clear hv); (try clear hws); (try clear hne'); (try clear hoff); (try clear hroom); (try clear hlt); (try clear hyl); (try clear hyn); (try clear hpl); (try clear hv'); (try clear hs); (try clear hl0); (try clear hl1); generalize plFold bare qs (ps.reverse.take i) = r at hy1 hy2 ⊢; subst hy2; unfold plStep)
        all_goals (first | (simp_all; done) | (simp_all; omega)))
    · rintro u ⟨k, tk1, us, ys, c1⟩ h tk ⟨hs, hy1, hy2⟩ F2 N2
      clear N1 F1
      (try dsimp only at hs hy1 hy2 F2 N2 ⊢)
      rw [List.take_of_length_le (by rw [List.size_toArray, hws.len_eq]; exact Nat.le_refl _)] at hy1 hy2
      have hr1 : (plFold bare qs ps.reverse).1 + (plFold bare qs ps.reverse).2.length ≤ 0 + 0 + ps.reverse.length := plFold_room bare qs ps.reverse (0, [])
      have hr2 : ((plFold bare qs ps.reverse).2.map (·.length)).sum ≤ 0 + 5 * (ps.reverse.map (·.length)).sum := plFold_sum hq ps.reverse (0, [])
      rw [sum_rev, ← hy2] at hr2
      rw [List.length_reverse, ← hy2] at hr1
      have hk0 : 0 ≤ k := by omega
      have hyn : ys.length ≤ 100000 := by omega
      have hone : (Str.ofString "/").length = 1 := by decide
      have htwo : (Str.ofString "..").length = 2 := by decide
      have hok : (ys.map (·.length)).sum + ys.length * (Str.ofString "/").length ≤ 16777216 := by rw [hone]; omega
      have hok2 : ((List.replicate k.toNat (Str.ofString "..") ++ ys).map (·.length)).sum + (List.replicate k.toNat (Str.ofString "..") ++ ys).length * (Str.ofString "/").length ≤ 16777216 := by
        rw [hone, List.map_append, List.sum_append, sum_reps, List.length_append, List.length_replicate, htwo]; omega
      have hj1 : (Txt.join (Str.ofString "/") ys).length ≤ 20000 := by
        have h9 := txt_join_len (Str.ofString "/") ys
        rw [hone] at h9; omega
      have hj2 : (Txt.join (Str.ofString "/") (List.replicate k.toNat (Str.ofString "..") ++ ys)).length ≤ 20000 := by
        have h9 := txt_join_len (Str.ofString "/") (List.replicate k.toNat (Str.ofString "..") ++ ys)
        rw [hone, List.map_append, List.sum_append, sum_reps, List.length_append, List.length_replicate, htwo] at h9; omega
      have hrl : (List.replicate k.toNat (Str.ofString "..")).length = k.toNat := List.length_replicate
      repeat' ((fail_if_success (with_reducible show wpAny _ _ (pyIter _) _ _ _)); ((first | ((with_reducible show wpAny _ _ (binaryOp Operator.Mult (Value.ref _) (Value.int _ _)) _ _ _); (k_here; (with_reducible show wpAny _ _ (binaryOp _ (Value.ref _) (Value.int _ _)) _ _ _); k_dflt (refine' txt_mul1 ?k1Qz ?k2Qz ?k3Qz ?k4Qz ?k5Qz ?_; (case k1Qz => k_asm); (case k2Qz => k_asm); (case k3Qz => k_mem); (case k4Qz => omega); (case k5Qz => omega); k_whole); intro D' h' F' N' l1 hs9; (try k_lt l1); (try k_sweep))) | ((with_reducible show wpAny _ _ (call (Value.ref 173) _) _ _ _); (k_here; k_dflt (refine' Tells.useS ?k1Qz ?k2Qz ?k3Qz ?k4Qz ?k5Qz ?k6Qz ?kcQz ?k7Qz ?k8Qz ?k9Qz ?_; (case k1Qz => k_asm); (case k2Qz => k_asm); (case k3Qz => k_asm); (case k4Qz => k_asm); (case k5Qz => k_asm); (case kcQz => exact image_ok _ _ _ _ _ (by k_mem) (by assumption) (by assumption) (by omega)); (case k6Qz => first | exact rfl | assumption); (case k7Qz => ktr_room); (case k8Qz => ktr_units); (case k9Qz => first | exact Nat.zero_le _ | ((try dsimp only); omega)); k_whole; intro t9 h9 tk9 F9 N9 htk9))) | ((with_reducible show wpAny _ _ (call (Value.builtin "str.split") _) _ _ _); (k_here; (try dsimp only [List.cons_append, List.nil_append]); (with_reducible show wpAny _ _ (call (Value.builtin _) [Value.str _ _, Value.str _ _]) _ _ _); k_dflt (refine' txt_split ?k1Qz ?k2Qz ?k3Qz ?k4Qz ?_; (case k1Qz => k_asm); (case k2Qz => k_asm); (case k3Qz => rfl); (case k4Qz => omega); k_whole); intro D' h' ws k9 F' N' l1 hs9; (try k_lt l1); (try k_sweep))) | ((with_reducible show wpAny _ _ (subscriptTail _ (PySem.Expr.Slice _ _ _ _) (Value.ref _) (Value.ref _)) _ _ _); (k_here; (with_reducible show wpAny _ _ (subscriptTail _ (PySem.Expr.Slice _ _ none _) (Value.ref _) (Value.ref _)) _ _ _); k_dflt (refine' txt_slice (s := ⟨_, _, _, _, _⟩) ?FQz ?NQz ?mQz ?xQz ?zQz ?pQz ?qQz ?yQz ?_ ?sQz ?tQz; (case FQz => k_asm); (case NQz => k_asm); (case mQz => k_mem); (case xQz => assumption); (case zQz => omega); (case pQz => first | exact IsPart.none | exact IsPart.int _ _); (case qQz => first | exact IsPart.none | exact IsPart.int _ _); (case yQz => first | exact pick_upto1 (by assumption) | exact pick_run1 (by assumption) (by omega) | exact pick_from (by assumption) (by omega)); (case sQz => with_unfolding_all rfl); (case tQz => (intro _; with_unfolding_all rfl)); k_whole); intro D' h' ws F' N' l1 hs9; (try k_lt l1); (try k_sweep))) | ((with_reducible show wpAny _ _ (subscriptTail _ (PySem.Expr.Slice _ _ _ _) (Value.ref _) (Value.ref _)) _ _ _); (k_here; (with_reducible show wpAny _ _ (subscriptTail _ (PySem.Expr.Slice none none (some _) _) (Value.ref _) (Value.ref _)) _ _ _); k_dflt (refine' txt_rev (s := ⟨_, _, _, _, _⟩) ?FQz ?NQz ?mQz ?xQz ?zQz ?kQz ?_ ?sQz ?tQz; (case FQz => k_asm); (case NQz => k_asm); (case mQz => k_mem); (case xQz => assumption); (case zQz => omega); (case kQz => exact IsPart.int _ _); (case sQz => with_unfolding_all rfl); (case tQz => (intro _; with_unfolding_all rfl)); k_whole); intro D' h' ws F' N' l1 hs9; (try k_lt l1); (try k_sweep))) | ((with_reducible show wpAny _ _ (binaryOp Operator.Add (Value.ref _) (Value.ref _)) _ _ _); (k_here; (with_reducible show wpAny _ _ (binaryOp _ (Value.ref _) (Value.ref _)) _ _ _); k_dflt (refine' txt_add ?k1Qz ?k2Qz ?k3Qz ?k4Qz ?k5Qz ?k6Qz ?k7Qz ?_; (case k1Qz => k_asm); (case k2Qz => k_asm); (case k3Qz => k_mem); (case k4Qz => assumption); (case k5Qz => k_mem); (case k6Qz => assumption); (case k7Qz => omega); k_whole); intro D' h' F' N' l1 hs9; (try k_lt l1); (try k_sweep))) | ((with_reducible show wpAny _ _ (call (Value.builtin "list.insert") _) _ _ _); (k_here; (try dsimp only [List.cons_append, List.nil_append]); (with_reducible show wpAny _ _ (call (Value.builtin _) [Value.ref _, Value.int 0 _, Value.str _ _]) _ _ _); k_dflt (refine' txt_insert0 ?k1Qz ?k2Qz ?k3Qz ?k4Qz ?k5Qz ?_; (case k1Qz => k_asm); (case k2Qz => k_asm); (case k5Qz => k_upd); (case k3Qz => assumption); (case k4Qz => omega); k_whole); intro h' F' N' hs9; (try k_sweep))) | ((with_reducible show wpAny _ _ (call (Value.builtin "list.pop") _) _ _ _); (k_here; (try dsimp only [List.cons_append, List.nil_append]); (with_reducible show wpAny _ _ (call (Value.builtin _) [Value.ref _]) _ _ _); k_dflt (refine' txt_pop ?k1Qz ?k2Qz ?k3Qz ?k6Qz ?k4Qz ?k5Qz ?_; (case k1Qz => k_asm); (case k2Qz => k_asm); (case k5Qz => k_upd); (case k3Qz => assumption); (case k4Qz => omega); (case k6Qz => first | assumption | exact ne1 (by assumption) | exact ne2 (by assumption)); k_whole); intro h' t9 F' N' hs9; (try k_sweep))) | ((with_reducible show wpAny _ _ (call (Value.builtin "list.append") _) _ _ _); (k_here; (try dsimp only [List.cons_append, List.nil_append]); (with_reducible show wpAny _ _ (call (Value.builtin _) [Value.ref _, Value.str _ _]) _ _ _); k_dflt (refine' txt_append ?k1Qz ?k2Qz ?k3Qz ?k4Qz ?k5Qz ?_; (case k1Qz => k_asm); (case k2Qz => k_asm); (case k5Qz => k_upd); (case k3Qz => assumption); (case k4Qz => omega); k_whole); intro h' F' N' hs9; (try k_sweep))) | ((with_reducible show wpAny _ _ (call (Value.builtin "str.join") _) _ _ _); (k_here; (try dsimp only [List.cons_append, List.nil_append]); (with_reducible show wpAny _ _ (call (Value.builtin _) [Value.str _ _, Value.ref _]) _ _ _); k_dflt (refine' txt_join ?k1Qz ?k2Qz ?k3Qz ?k4Qz ?_; (case k1Qz => k_asm); (case k2Qz => k_mem); (case k3Qz => assumption); (case k4Qz => first | assumption | omega); k_whole); intro t9 k9)) | ((with_reducible show wpAny _ _ (call (Value.builtin "len") _) _ _ _); (k_here; (with_reducible show wpAny _ _ (call (Value.builtin _) [Value.ref _]) _ _ _); k_dflt (refine' txt_len ?k1Qz ?k2Qz ?k3Qz ?k4Qz ?_; (case k1Qz => k_asm); (case k2Qz => k_mem); (case k3Qz => assumption); (case k4Qz => omega); k_whole))) | ((with_reducible show wpAny _ _ (truthy (Value.ref _)) _ _ _); (k_here; k_dflt (refine' txt_truthy ?k1Qz ?k2Qz ?k3Qz ?k4Qz ?_; (case k1Qz => k_asm); (case k2Qz => k_mem); (case k3Qz => assumption); (case k4Qz => omega); k_whole))) | ((with_reducible show wpAny _ _ (subscriptTail _ _ (Value.ref _) (Value.int _ _)) _ _ _); (k_here; (with_reducible show wpAny _ _ (subscriptTail _ _ (Value.ref _) (Value.int (-1) _)) _ _ _); k_dflt (refine' txt_last ?k1Qz ?k2Qz ?k3Qz ?k4Qz ?_ ?k5Qz ?k6Qz; (case k1Qz => k_asm); (case k2Qz => k_mem); (case k3Qz => assumption); (case k4Qz => first | assumption | exact ne1 (by assumption) | exact ne2 (by assumption)); (case k5Qz => with_unfolding_all rfl); (case k6Qz => (intro _; with_unfolding_all rfl)); k_whole); intro t9)) | ((with_reducible show wpAny _ _ (binaryOp Operator.Add (Value.str _ _) (Value.str _ _)) _ _ _); ((with_reducible show wpAny _ _ (binaryOp Operator.Add (Value.str _ _) (Value.str _ _)) _ _ _); (refine SB.add (hsz := ?hszQz) ?_); (case hszQz => (rw [PySem.sizeLine_eq]; (try simp only [Str.length_append]); omega)); intro t9 k9)) | ((with_reducible show wpAny _ _ (call (Value.builtin "list.append") _) _ _ _); (k_here; (try dsimp only [List.cons_append, List.nil_append]); (with_reducible show wpAny _ _ (call (Value.builtin _) [Value.ref _, _]) _ _ _); k_dflt (refine' append_K ?k1Qz ?k2Qz ?k3Qz ?_ ?zQz; (case k1Qz => k_asm); (case k2Qz => k_asm); (case k3Qz => k_upd); (case zQz => size_fits); k_whole); intro h' F' N'; (try k_sweep))) | ((with_reducible show wpAny _ _ (exec (PySem.Stmt.For (PySem.Expr.Name _ _) (PySem.Expr.Subscript _ _ _) _ _ _) _) _ _ _); (k_here; (rename Fr _ _ _ _ => lF'); (with_unfolding_all refine' For_invVF lF' ?k1Qz ?k2Qz ?_; (case k1Qz => exact rfl); (case k2Qz => exact rfl); k_whole))) | ((with_reducible show wpAny _ _ (exec (PySem.Stmt.For (PySem.Expr.Name _ _) (PySem.Expr.Call _ _ _ _) _ _ _) _) _ _ _); (k_here; (rename Fr _ _ _ _ => lF'); (with_unfolding_all refine' For_invVF lF' ?k1Qz ?k2Qz ?_; (case k1Qz => exact rfl); (case k2Qz => exact rfl); k_whole))) | ((with_reducible show wpAny _ _ (exec (PySem.Stmt.For (PySem.Expr.Name _ _) (PySem.Expr.Name _ _) _ _ _) _) _ _ _); (k_here; (rename Fr _ _ _ _ => lF'); (with_unfolding_all refine' For_invVF lF' ?k1Qz ?k2Qz ?_; (case k1Qz => exact rfl); (case k2Qz => exact rfl); k_whole))) | walk1) <;> (try dsimp only)))
      all_goals (
        rename News h₀ _ _ _ => N9
        refine hret _ [] _ _ (by k_asm) (news_drop N9 (by first | exact fun p hp => .tail _ (.tail _ hp) | exact fun p hp => .tail _ (.tail _ (.tail _ hp)) | exact fun p hp => .tail _ (.tail _ (.tail _ (.tail _ hp))) | exact fun p hp => .tail _ (.tail _ (.tail _ (.tail _ (.tail _ hp)))))) (RStr.of ?_)
        first
          | exact pl_ret (b := true) (pl_bodyA hy1 hy2 (by omega) (by assumption)) (by assumption)
          | exact pl_ret (b := false) (pl_bodyA hy1 hy2 (by omega) (by assumption)) (by assumption)
          | exact pl_ret (b := true) (pl_bodyB hy2 (by omega) (by assumption)) (by assumption)
          | exact pl_ret (b := false) (pl_bodyB hy2 (by omega) (by assumption)) (by assumption)
          | exact pl_ret (b := true) (pl_bodyC hy2 (by omega)) (by assumption)
          | exact pl_ret (b := false) (pl_bodyC hy2 (by omega)) (by assumption)))
section
open PySem.Builtin PySem.Builtin.Str
/-- where a pattern stands -/
def occL (p : List Nat) : Nat → Nat → List Nat → List Nat
  | _, _, [] => []
  | i, 0, c :: r => if p.isPrefixOf (c :: r) = true then i :: occL p (i + 1) (p.length - 1) r else occL p (i + 1) 0 r
  | i, k + 1, _ :: r => occL p (i + 1) k r
def replL (p z : List Nat) : Nat → List Nat → List Nat
  | _, [] => []
  | 0, c :: r => if p.isPrefixOf (c :: r) = true then z ++ replL p z (p.length - 1) r else c :: replL p z 0 r
  | k + 1, _ :: r => replL p z k r
theorem prefix_take (p l : List Nat) : p.isPrefixOf l = (l.take p.length == p) := by
  rw [Bool.eq_iff_iff, List.isPrefixOf_iff_prefix, beq_iff_eq, List.prefix_iff_eq_take]
  exact ⟨Eq.symm, Eq.symm⟩
theorem occ_go (x y : Str) (hy : 1 ≤ y.length) : ∀ (suf pre : List Nat) (st : Array Nat × Nat), cl x = pre ++ suf → st.1.size ≤ pre.length →
    (forIn (List.range' pre.length (suf.length + 1)) st (StrLaws.occBody x y x.length (x.length + 1))).run.fst.toList = st.1.toList ++ occL (cl y) pre.length (st.2 - pre.length) suf
  | [], pre, st, hx, hs => by
    have hl : x.length = pre.length := by rw [← cl_len, hx]; simp
    rw [show List.range' pre.length (([] : List Nat).length + 1) = [pre.length] from rfl, List.forIn_cons]
    unfold StrLaws.occBody
    rw [if_neg (by intro h; have := h.1.2; omega)]
    simp [occL]
  | c :: r, pre, st, hx, hs => by
    have hl : x.length = pre.length + (r.length + 1) := by rw [← cl_len, hx]; simp
    have hx' : cl x = (pre ++ [c]) ++ r := by rw [hx]; simp
    have hd : (cl x).drop pre.length = c :: r := by rw [hx]; simp
    have ih := fun st h => occ_go x y hy r (pre ++ [c]) st hx' h
    have e1 : (pre ++ [c]).length = pre.length + 1 := by simp
    rw [e1] at ih
    rw [show List.range' pre.length ((c :: r).length + 1) = pre.length :: List.range' (pre.length + 1) (r.length + 1) from rfl, List.forIn_cons]
    by_cases h1 : st.2 ≤ pre.length
    · have e2 : st.2 - pre.length = 0 := by omega
      rw [e2]
      unfold occL
      by_cases h2 : (cl y).isPrefixOf (c :: r) = true
      · have h3 : subAt x y pre.length = true := by
          rw [StrLaws.subAt_eq]
          show ((cl x).drop pre.length).take y.length == cl y
          rw [hd, ← cl_len y, ← prefix_take]; exact h2
        have h4 : (cl y).length ≤ (c :: r).length := (List.isPrefixOf_iff_prefix.mp h2).length_le
        rw [cl_len, List.length_cons] at h4
        have c1 : ((st.fst.size < x.length + 1 ∧ st.snd ≤ pre.length) ∧ pre.length + y.length ≤ x.length) ∧ subAt x y pre.length = true := ⟨⟨⟨by omega, h1⟩, by omega⟩, h3⟩
        rw [if_pos h2]
        conv => lhs; arg 1; arg 1; arg 1; arg 1; rw [StrLaws.occBody, if_pos c1]
        have := ih (st.1.push pre.length, pre.length + y.length) (by simp; omega)
        have e3 : pre.length + y.length - (pre.length + 1) = (cl y).length - 1 := by rw [cl_len]; omega
        rw [e3] at this
        refine this.trans ?_
        simp
      · have h3 : ¬ subAt x y pre.length = true := by
          intro h; apply h2
          rw [StrLaws.subAt_eq] at h
          replace h : (((cl x).drop pre.length).take y.length == cl y) = true := h
          rw [hd, ← cl_len y, ← prefix_take] at h; exact h
        rw [if_neg h2]
        conv => lhs; arg 1; arg 1; arg 1; arg 1; rw [StrLaws.occBody, if_neg (fun h => h3 h.2)]
        have := ih st (by omega)
        have e3 : st.2 - (pre.length + 1) = 0 := by omega
        rw [e3] at this
        exact this
    · obtain ⟨k, hk⟩ : ∃ k, st.2 - pre.length = k + 1 := ⟨st.2 - pre.length - 1, by omega⟩
      rw [hk]
      unfold occL
      conv => lhs; arg 1; arg 1; arg 1; arg 1; rw [StrLaws.occBody, if_neg (fun h => h1 h.1.1.2)]
      have := ih st (by omega)
      have e3 : st.2 - (pre.length + 1) = k := by omega
      rw [e3] at this
      exact this
theorem occ_list (x y : Str) (hy : 1 ≤ y.length) : occurrences x y 0 x.length (x.length + 1) = occL (cl y) 0 0 (cl x) := by
  rw [StrLaws.occ_eq]
  have := occ_go x y hy (cl x) [] (#[], 0) rfl (Nat.le_refl _)
  rw [cl_len] at this
  exact this
theorem cl_sub (x : Str) (a b : Nat) : cl (strSub x a b) = ((cl x).drop a).take (b - a) := StrLaws.strSub_toList x a b
theorem glue_go (x y z : Str) (hy : 1 ≤ y.length) : ∀ (suf pre : List Nat) (k a : Nat), cl x = pre ++ suf → (k = 0 ∧ a ≤ pre.length ∨ a = pre.length + k) →
    cl (Str.join z (StrLaws.partsFrom x y.length a (occL (cl y) pre.length k suf))) = ((cl x).drop a).take (pre.length - a) ++ replL (cl y) (cl z) k suf
  | [], pre, k, a, hx, hk => by
    have hl : x.length = pre.length := by rw [← cl_len, hx]; simp
    have e : occL (cl y) pre.length k [] = [] := by cases k <;> rfl
    have e2 : replL (cl y) (cl z) k [] = [] := by cases k <;> rfl
    rw [e, e2]
    show cl (strSub x a x.length) = _
    rw [cl_sub, hl, List.append_nil]
  | c :: r, pre, k, a, hx, hk => by
    have hx' : cl x = (pre ++ [c]) ++ r := by rw [hx]; simp
    have hd : (cl x).drop pre.length = c :: r := by rw [hx]; simp
    have ih := fun k a h => glue_go x y z hy r (pre ++ [c]) k a hx' h
    have e1 : (pre ++ [c]).length = pre.length + 1 := by simp
    rw [e1] at ih
    cases k with
    | zero =>
      have ha : a ≤ pre.length := by omega
      unfold occL replL
      by_cases h2 : (cl y).isPrefixOf (c :: r) = true
      · rw [if_pos h2, if_pos h2]
        obtain ⟨p, q, e⟩ := StrLaws.partsFrom_ne x y.length (pre.length + y.length) (occL (cl y) (pre.length + 1) ((cl y).length - 1) r)
        have := ih ((cl y).length - 1) (pre.length + y.length) (.inr (by rw [cl_len]; omega))
        show cl (Str.join z (strSub x a pre.length :: StrLaws.partsFrom x y.length (pre.length + y.length) _)) = _
        rw [e] at this ⊢
        show cl (strSub x a pre.length ++ z ++ Str.join z (p :: q)) = _
        rw [cl_app, cl_app, this, cl_sub]
        have e4 : pre.length + 1 - (pre.length + y.length) = 0 := by omega
        rw [e4]; simp
      · rw [if_neg h2, if_neg h2]
        have := ih 0 a (.inl ⟨rfl, by omega⟩)
        rw [this]
        have e5 : pre.length + 1 - a = (pre.length - a) + 1 := by omega
        have e6 : ((cl x).drop a)[pre.length - a]? = some c := by
          rw [List.getElem?_drop, show a + (pre.length - a) = pre.length by omega, hx]; simp
        rw [e5, List.take_add_one, e6]; simp
    | succ k =>
      have ha : a = pre.length + 1 + k := by omega
      unfold occL replL
      have := ih k a (.inr ha)
      rw [this]
      have e5 : pre.length + 1 - a = 0 := by omega
      have e6 : pre.length - a = 0 := by omega
      rw [e5, e6]
theorem cl_replace (x y z : Str) (hy : 1 ≤ y.length) : cl (Txt.replace x y z) = replL (cl y) (cl z) 0 (cl x) := by
  have h := glue_go x y z hy (cl x) [] 0 0 rfl (.inl ⟨rfl, Nat.le_refl _⟩)
  rw [← StrLaws.partsBetween_eq] at h
  simp only [List.length_nil, List.drop_zero, Nat.sub_zero, List.take_zero, List.nil_append] at h
  rw [← occ_list x y hy, ← StrLaws.glued_eq_join] at h
  unfold Txt.replace
  split
  · rename_i h1
    have h2 : (y.length == 0) = false := by
      rw [beq_eq_false_iff_ne]; omega
    rw [h2, Bool.false_and, Bool.or_false, List.isEmpty_iff] at h1
    rw [h1] at h
    rw [← h, StrLaws.glued_eq_join, StrLaws.partsBetween_eq]
    show cl x = cl (strSub x 0 x.length)
    rw [StrLaws.sub_whole]
  · exact h
def spl : List Nat → List (List Nat)
  | [] => [[]]
  | c :: r => if c = 47 then [] :: spl r else (c :: (spl r).headD []) :: (spl r).tail
theorem spl_ne : ∀ l, spl l ≠ []
  | [] => by simp [spl]
  | c :: r => by unfold spl; split <;> simp
theorem split_go (x : Str) : ∀ (suf pre : List Nat) (a : Nat), cl x = pre ++ suf → a ≤ pre.length →
    (StrLaws.partsFrom x 1 a (occL [47] pre.length 0 suf)).map cl = (((cl x).drop a).take (pre.length - a) ++ (spl suf).headD []) :: (spl suf).tail
  | [], pre, a, hx, hk => by
    have hl : x.length = pre.length := by rw [← cl_len, hx]; simp
    show [cl (strSub x a x.length)] = _
    rw [cl_sub, hl]
    show _ = [_ ++ []]
    rw [List.append_nil]
  | c :: r, pre, a, hx, hk => by
    have hx' : cl x = (pre ++ [c]) ++ r := by rw [hx]; simp
    have ih := fun a h => split_go x r (pre ++ [c]) a hx' h
    have e1 : (pre ++ [c]).length = pre.length + 1 := by simp
    rw [e1] at ih
    by_cases hc : c = 47
    · subst hc
      have e : occL [47] pre.length 0 (47 :: r) = pre.length :: occL [47] (pre.length + 1) 0 r := by
        rw [occL, if_pos (by simp [List.isPrefixOf])]; rfl
      rw [e]
      show cl (strSub x a pre.length) :: (StrLaws.partsFrom x 1 (pre.length + 1) _).map cl = _
      rw [ih (pre.length + 1) (Nat.le_refl _), cl_sub]
      have e2 : spl (47 :: r) = [] :: spl r := by rw [spl, if_pos rfl]
      rw [e2, Nat.sub_self]
      simp only [List.take_zero, List.nil_append, List.headD_cons, List.tail_cons, List.append_nil]
      cases hs : spl r with
      | nil => exact absurd hs (spl_ne r)
      | cons => rfl
    · have e : occL [47] pre.length 0 (c :: r) = occL [47] (pre.length + 1) 0 r := by
        rw [occL, if_neg (by simp [List.isPrefixOf]; exact fun h => hc h.symm)]
      rw [e, ih a (by omega)]
      have e2 : spl (c :: r) = (c :: (spl r).headD []) :: (spl r).tail := by rw [spl, if_neg hc]
      rw [e2]
      have e5 : pre.length + 1 - a = (pre.length - a) + 1 := by omega
      have e6 : ((cl x).drop a)[pre.length - a]? = some c := by
        rw [List.getElem?_drop, show a + (pre.length - a) = pre.length by omega, hx]; simp
      rw [e5, List.take_add_one, e6]; simp
theorem cl_split (x : Str) : (Txt.split x (Str.ofString "/")).map cl = spl (cl x) := by
  have h := split_go x (cl x) [] 0 rfl (Nat.le_refl _)
  rw [← StrLaws.partsBetween_eq] at h
  simp only [List.length_nil, List.drop_zero, Nat.sub_zero, List.take_zero, List.nil_append] at h
  have e0 : cl (Str.ofString "/") = [47] := cl_sl
  have e1 : occL [47] 0 0 (cl x) = occurrences x (Str.ofString "/") 0 x.length (x.length + 1) := by rw [occ_list _ _ (by decide), e0]
  rw [e1] at h
  have h2 : spl (cl x) = (spl (cl x)).headD [] :: (spl (cl x)).tail := by
    cases hs : spl (cl x) with
    | nil => exact absurd hs (spl_ne _)
    | cons => rfl
  rw [← h2] at h
  have hk : ¬ strKind x < strKind (Str.ofString "/") := by
    have : strKind (Str.ofString "/") = 1 := by decide +kernel
    rw [this]; unfold Builtin.Str.strKind; split
    · omega
    · split <;> omega
  unfold Txt.split
  split
  · rename_i h1
    have h3 : x.length < 1 := by
      simp only [Bool.or_eq_true, decide_eq_true_eq] at h1
      exact h1.resolve_right hk
    have h4 : cl x = [] := List.length_eq_zero_iff.mp (by rw [cl_len]; omega)
    rw [List.map_cons, List.map_nil, h4]; rfl
  · split
    · rename_i h1
      rw [List.isEmpty_iff] at h1
      rw [h1] at h
      rw [← h, StrLaws.partsBetween_eq]
      show [cl x] = [cl (strSub x 0 x.length)]
      rw [StrLaws.sub_whole]
    · exact h
end
section
open PySem.Builtin PySem.Builtin.Str
/-! list theory of paths -/
theorem spl_sl (r : List Nat) : spl (47 :: r) = [] :: spl r := by rw [spl, if_pos rfl]
theorem spl_c {c : Nat} (h : c ≠ 47) (r : List Nat) : spl (c :: r) = (c :: (spl r).headD []) :: (spl r).tail := by rw [spl, if_neg h]
theorem spl_app : ∀ (a b : List Nat), spl (a ++ 47 :: b) = spl a ++ spl b
  | [], b => spl_sl b
  | c :: a, b => by
    by_cases h : c = 47
    · subst h
      rw [List.cons_append, spl_sl, spl_sl, spl_app a b]; rfl
    · rw [List.cons_append, spl_c h, spl_c h, spl_app a b]
      cases hs : spl a with
      | nil => exact absurd hs (spl_ne a)
      | cons p q => rfl
theorem spl_free : ∀ {a : List Nat}, 47 ∉ a → spl a = [a]
  | [], _ => rfl
  | c :: a, h => by
    have h1 : c ≠ 47 := fun e => h (e ▸ .head _)
    rw [spl_c h1, spl_free (fun hm => h (.tail _ hm))]; rfl
theorem spl_cons_ne {l : List Nat} : spl l = (spl l).headD [] :: (spl l).tail := by
  cases hs : spl l with
  | nil => exact absurd hs (spl_ne _)
  | cons => rfl
def ne0 (l : List Nat) : Bool := !l.isEmpty
def inter : List (List Nat) → List Nat
  | [] => []
  | [x] => x
  | x :: y :: r => x ++ 47 :: inter (y :: r)
theorem inter_cons {x : List Nat} {r : List (List Nat)} (h : r ≠ []) : inter (x :: r) = x ++ 47 :: inter r := by
  cases r with
  | nil => exact absurd rfl h
  | cons y r => rfl
theorem inter_snoc : ∀ {xs : List (List Nat)} (b : List Nat), xs ≠ [] → inter (xs ++ [b]) = inter xs ++ 47 :: b
  | [], _, h => absurd rfl h
  | [x], b, _ => rfl
  | x :: y :: r, b, _ => by
    have ih := inter_snoc (xs := y :: r) b (by simp)
    rw [List.cons_append, inter_cons (r := y :: r ++ [b]) (by simp), ih, inter_cons (x := x) (r := y :: r) (by simp), List.append_assoc]; rfl
theorem spl_inter : ∀ {xs : List (List Nat)}, xs ≠ [] → (∀ x ∈ xs, 47 ∉ x) → spl (inter xs) = xs
  | [], h, _ => absurd rfl h
  | [x], _, hf => spl_free (hf x (.head _))
  | x :: y :: r, _, hf => by
    rw [inter_cons (by simp), spl_app, spl_free (hf x (.head _)), spl_inter (by simp) (fun z hz => hf z (.tail _ hz))]; rfl
/-! join, told -/
def jStepL (p b : List Nat) : List Nat := if b.head? = some 47 ∨ p = [] then b else if p.getLast? = some 47 then p ++ b else p ++ 47 :: b
theorem sub0_iff (b : Str) : Txt.startswith b (Str.ofString "/") = true ↔ (cl b).head? = some 47 := by
  unfold Txt.startswith
  rw [sl_eq, Bool.and_eq_true, decide_eq_true_eq]
  rw [StrLaws.subAt_one b 47 0, List.head?_eq_getElem?]
theorem starts_iff (b : Str) : Txt.startswith b (Str.ofString "/") = true ↔ (cl b).head? = some 47 := sub0_iff b
theorem ends_iff (b : Str) : Txt.endswith b (Str.ofString "/") = true ↔ (cl b).getLast? = some 47 := by
  unfold Txt.endswith
  rw [sl_eq, Bool.and_eq_true, decide_eq_true_eq]
  have e : (⟨#[47]⟩ : Str).length = 1 := rfl
  rw [e, List.getLast?_eq_getElem?, cl_len]
  by_cases h : 1 ≤ b.length
  · have h2 := StrLaws.subAt_one b 47 (b.length - 1)
    rw [e] at h2
    rw [← h2]
    constructor
    · exact fun h3 => ⟨by omega, h3.2⟩
    · exact fun h3 => ⟨by omega, h3.2⟩
  · have h3 : cl b = [] := List.length_eq_zero_iff.mp (by rw [cl_len]; omega)
    rw [h3]
    constructor
    · intro h4; exact absurd h4.1 (by omega)
    · intro h4; exact absurd h4 (by simp)
theorem len0_iff (b : Str) : b.length = 0 ↔ cl b = [] := by rw [← cl_len, List.length_eq_zero_iff]
theorem cl_jStep (p b : Str) : cl (jStep p b) = jStepL (cl p) (cl b) := by
  unfold jStep jStepL
  by_cases h1 : (cl b).head? = some 47 ∨ cl p = []
  · rw [if_pos h1, if_pos (h1.imp (starts_iff b).mpr (len0_iff p).mpr)]
  · rw [if_neg h1, if_neg (fun h => h1 (h.imp (starts_iff b).mp (len0_iff p).mp))]
    by_cases h2 : (cl p).getLast? = some 47
    · rw [if_pos h2, if_pos ((ends_iff p).mpr h2), cl_app]
    · rw [if_neg h2, if_neg (fun h => h2 ((ends_iff p).mp h)), cl_app, cl_app, cl_sl]; rfl
def joinL (x : List Nat) (xs : List (List Nat)) : List Nat := xs.foldl jStepL x
theorem cl_join (x : Str) (xs : List Str) : cl (joinP x xs) = joinL (cl x) (xs.map cl) := by
  unfold joinP joinL
  induction xs generalizing x with
  | nil => rfl
  | cons b r ih => rw [List.foldl_cons, List.map_cons, List.foldl_cons, ih, cl_jStep]
/-- the join of a row that is not empty -/
def joinA : List Str → Str
  | [] => Str.ofString ""
  | x :: r => joinP x r
theorem joinA_snoc {xs : List Str} (h : xs ≠ []) (b : Str) : joinA (xs ++ [b]) = jStep (joinA xs) b := by
  cases xs with
  | nil => exact absurd rfl h
  | cons x r => show joinP x (r ++ [b]) = jStep (joinP x r) b; unfold joinP; rw [List.foldl_append]; rfl
theorem rooted_iff (b : Str) : rooted b = true ↔ (cl b).head? = some 47 := by
  unfold rooted
  rw [cl_beq, cl_sl]
  by_cases h : 1 ≤ b.length
  · have := cl_slice_to (x := b) (n := 1) h
    rw [show ((1 : Nat) : Int) = 1 from rfl] at this
    rw [this, beq_iff_eq]
    cases cl b with
    | nil => simp
    | cons a r => simp
  · have h2 : b.length = 0 := by omega
    have h3 : cl b = [] := (len0_iff b).mp h2
    have h4 : cl (Txt.slice b none (some 1)) = [] := (len0_iff _).mp (by have := Txt.slice_le b none (some 1); omega)
    rw [h3, h4]; simp
theorem item_last (b : Str) (h : cl b ≠ []) : (Txt.item b (-1) != Str.ofString "/") = true ↔ ¬ (cl b).getLast? = some 47 := by
  have hl : b.length ≠ 0 := fun e => h ((len0_iff b).mp e)
  have e : Txt.item b (-1) = ⟨#[((cl b).getLast?).getD 0]⟩ := by
    have e1 : Txt.charAt b (-1) = (cl b).getLast? := by
      unfold Txt.charAt
      rw [show seqIndex? (-1) b.length = some (b.length - 1) from ?_]
      · show b.cps[b.length - 1]? = _
        rw [List.getLast?_eq_getElem?, cl_len]; simp
      · rw [show (-1 : Int) = Int.negSucc 0 from rfl, seqIndex_neg (by decide) (by omega)]
        congr 1; omega
    unfold Txt.item; rw [e1]
  rw [e, bne_iff_ne]
  constructor
  · intro h1 h2
    exact h1 (by rw [h2]; decide)
  · intro h1 h2
    have := congrArg cl h2
    rw [cl_sl] at this
    replace this : [((cl b).getLast?).getD 0] = [47] := this
    replace this := (List.cons.inj this).1
    apply h1
    cases hg : (cl b).getLast? with
    | none => rw [hg] at this; exact absurd this (by decide)
    | some v => rw [hg] at this; exact congrArg some (by simpa using this)
def tStepL (a p : List Nat) : List Nat := if p ≠ [] ∧ ¬ p.getLast? = some 47 then a ++ p ++ [47] else a ++ p
theorem bne_emp (p : Str) : (p != Str.ofString "") = true ↔ cl p ≠ [] := by
  rw [cl_bne, cl_emp, bne_iff_ne]
theorem cl_tStep (a p : Str) : cl (tStep a p) = tStepL (cl a) (cl p) := by
  unfold tStep tStepL
  by_cases h0 : cl p = []
  · rw [if_neg (fun h => (bne_emp p).mp h.1 h0), if_neg (fun h => h.1 h0), cl_app]
  · by_cases h1 : (cl p).getLast? = some 47
    · rw [if_neg (fun h => (item_last p h0).mp h.2 h1), if_neg (fun h => h.2 h1), cl_app]
    · rw [if_pos ⟨(bne_emp p).mpr h0, (item_last p h0).mpr h1⟩, if_pos ⟨h0, h1⟩, cl_app, cl_app, cl_sl]
theorem tFirst_app (ns : List Str) (b : Str) : ∀ i, i ≤ ns.length → tFirst (ns ++ [b]) i = tFirst ns i
  | 0, _ => rfl
  | i + 1, h => by
    rw [tFirst_succ, tFirst_succ, tFirst_app ns b i (by omega)]
    have e : (ns ++ [b]).getD i default = ns.getD i default := by
      rw [List.getD_eq_getElem?_getD, List.getD_eq_getElem?_getD, List.getElem?_append_left (by omega)]
    rw [e]
theorem snoc_last {α : Type} {xs : List α} (d : α) (h : xs ≠ []) : xs.dropLast ++ [xs.getLastD d] = xs := by
  rcases List.eq_nil_or_concat xs with rfl | ⟨l, a, rfl⟩
  · exact absurd rfl h
  · simp
theorem tMid_root (ns : List Str) (b : Str) (h : rooted b = true) : tMid (ns ++ [b]) = [] := by
  unfold tMid
  rw [List.length_append, List.length_singleton, tFirst_succ]
  have e : (ns ++ [b]).getD ns.length default = b := by
    rw [List.getD_eq_getElem?_getD]; simp
  rw [e, if_pos h]; simp
theorem tMid_snoc (ns : List Str) (b : Str) (hn : ns ≠ []) (h : ¬ rooted b = true) : tMid (ns ++ [b]) = tMid ns ++ [ns.getLastD default] := by
  unfold tMid
  rw [List.length_append, List.length_singleton, tFirst_succ]
  have e : (ns ++ [b]).getD ns.length default = b := by
    rw [List.getD_eq_getElem?_getD]; simp
  rw [e, if_neg h, tFirst_app ns b _ (Nat.le_refl _)]
  obtain ⟨n, hn1⟩ : ∃ n, ns.length = n + 1 := ⟨ns.length - 1, by
    have : ns.length ≠ 0 := fun e => hn (List.length_eq_zero_iff.mp e)
    omega⟩
  have hlt : tFirst ns ns.length < ns.length := by
    rw [hn1, tFirst_succ]; split
    · omega
    · have := tFirst_le ns n; omega
  rw [List.drop_append_of_le_length (Nat.le_of_lt hlt), List.dropLast_concat]
  have h2 : ns.drop (tFirst ns ns.length) ≠ [] := by
    intro e2
    have := congrArg List.length e2
    rw [List.length_drop, List.length_nil] at this; omega
  have e3 : (ns.drop (tFirst ns ns.length)).getLastD default = ns.getLastD default := by
    rw [List.getLastD_eq_getLast?, List.getLastD_eq_getLast?, List.getLast?_drop, if_neg (by omega)]
  rw [← e3, snoc_last _ h2]
def tM (xs : List Str) : Str := (tMid xs).foldl tStep (Str.ofString "")
theorem tStepL_end (a p : List Nat) (h : a = [] ∨ a.getLast? = some 47) : tStepL a p = [] ∨ (tStepL a p).getLast? = some 47 := by
  unfold tStepL
  split
  · right; simp
  · rename_i h1
    by_cases h0 : p = []
    · subst h0; simpa using h
    · right
      have h2 : p.getLast? = some 47 := Classical.byContradiction fun h3 => h1 ⟨h0, h3⟩
      rw [List.getLast?_append, h2]; rfl
theorem joinA_of {xs : List Str} (h : xs ≠ []) : joinA xs = joinP (xs.headD default) xs.tail := by
  cases xs with
  | nil => exact absurd rfl h
  | cons x r => rfl
theorem told_inv : ∀ (n : Nat) (xs : List Str), xs.length = n + 1 → toldP xs = joinA xs ∧ (cl (tM xs) = [] ∨ (cl (tM xs)).getLast? = some 47)
  | n, xs, hl => by
    rcases List.eq_nil_or_concat xs with rfl | ⟨ns, b, rfl⟩
    · exact absurd hl (by simp)
    rw [List.concat_eq_append] at hl ⊢
    have hl' : ns.length = n := by simpa using hl
    have tp : toldP (ns ++ [b]) = tM (ns ++ [b]) ++ b := by unfold toldP tM; simp
    rw [tp]
    cases n with
    | zero =>
      have : ns = [] := List.length_eq_zero_iff.mp hl'
      subst this
      have e : tM [b] = Str.ofString "" := by
        unfold tM tMid
        have : tFirst [b] 1 = 0 := by
          have := tFirst_le [b] 0
          rw [tFirst_succ]; split <;> omega
        show List.foldl tStep _ ((([b] : List Str).drop (tFirst [b] 1)).dropLast) = _
        rw [this]; rfl
      rw [List.nil_append, e]
      refine ⟨cl_inj ?_, .inl cl_emp⟩
      rw [cl_app, cl_emp]; rfl
    | succ n =>
      have hn : ns ≠ [] := fun e => by rw [e] at hl'; cases hl'
      obtain ⟨ih1, ih2⟩ := told_inv n ns hl'
      rw [joinA_snoc hn]
      by_cases hr : rooted b = true
      · have e : tM (ns ++ [b]) = Str.ofString "" := by unfold tM; rw [tMid_root ns b hr]; rfl
        rw [e]
        refine ⟨cl_inj ?_, .inl cl_emp⟩
        rw [cl_app, cl_emp, cl_jStep]
        unfold jStepL
        rw [if_pos (.inl ((rooted_iff b).mp hr))]; rfl
      · have e : tM (ns ++ [b]) = tStep (tM ns) (ns.getLastD default) := by
          unfold tM; rw [tMid_snoc ns b hn hr, List.foldl_append]; rfl
        rw [e]
        refine ⟨cl_inj ?_, ?_⟩
        · have tp2 : toldP ns = tM ns ++ ns.getLastD default := rfl
          rw [cl_app, cl_jStep, ← ih1, tp2, cl_app, cl_tStep]
          generalize cl (tM ns) = M at ih2
          generalize cl (ns.getLastD default) = p
          have hb : ¬ (cl b).head? = some 47 := fun h => hr ((rooted_iff b).mpr h)
          generalize cl b = c at hb
          unfold tStepL jStepL
          by_cases h0 : p = []
          · subst h0
            rw [if_neg (fun h => h.1 rfl), List.append_nil]
            rcases ih2 with h2 | h2
            · rw [if_pos (.inr h2), h2]; rfl
            · rw [if_neg (by rintro (h | h); exact hb h; rw [h] at h2; cases h2), if_pos h2]
          · by_cases h1 : p.getLast? = some 47
            · have h2 : (M ++ p).getLast? = some 47 := by rw [List.getLast?_append, h1]; rfl
              rw [if_neg (fun h => h.2 h1), if_neg (by rintro (h | h); exact hb h; rw [h] at h2; cases h2), if_pos h2]
            · have h2 : (M ++ p).getLast? = p.getLast? := by
                rw [List.getLast?_append]
                cases hp : p.getLast? with
                | none => exact absurd (List.getLast?_eq_none_iff.mp hp) h0
                | some v => rfl
              rw [if_pos ⟨h0, h1⟩, if_neg (by rintro (h | h); exact hb h; exact h0 (List.append_eq_nil_iff.mp h).2), if_neg (by rw [h2]; exact h1)]
              simp
        · rw [cl_tStep]; exact tStepL_end _ _ ih2
theorem told_join {xs : List Str} (h : xs ≠ []) : toldP xs = joinA xs := by
  have : xs.length ≠ 0 := fun e => h (List.length_eq_zero_iff.mp e)
  exact (told_inv (xs.length - 1) xs (by omega)).1
end
section
open PySem.Builtin PySem.Builtin.Str
/-! escape and unescape are maps sign by sign -/
theorem replL_skip (p z : List Nat) : ∀ (b r : List Nat), replL p z b.length (b ++ r) = replL p z 0 r
  | [], r => rfl
  | _ :: b, r => replL_skip p z b r
theorem replL_hit {p : List Nat} (z : List Nat) (hp : p ≠ []) (r : List Nat) : replL p z 0 (p ++ r) = z ++ replL p z 0 r := by
  cases p with
  | nil => exact absurd rfl hp
  | cons a q =>
    have h : (a :: q).isPrefixOf ((a :: q) ++ r) = true := List.isPrefixOf_iff_prefix.mpr (List.prefix_append _ _)
    rw [List.cons_append] at h ⊢
    rw [replL, if_pos h]
    congr 1
    exact replL_skip _ z q r
def mis : List Nat → List Nat → Bool
  | a :: p, b :: s => a != b || mis p s
  | _, _ => false
theorem mis_of : ∀ {p s : List Nat} (r : List Nat), mis p s = true → p.isPrefixOf (s ++ r) = false
  | a :: p, b :: s, r, h => by
    rw [List.cons_append, List.isPrefixOf]
    unfold mis at h
    rcases Bool.or_eq_true_iff.mp h with h | h
    · have : (a == b) = false := by
        rw [bne, Bool.not_eq_true'] at h; exact h
      rw [this]; rfl
    · rw [mis_of r h, Bool.and_false]
  | [], _, _, h => by simp [mis] at h
  | _ :: _, [], _, h => by simp [mis] at h
def freeB (p : List Nat) : List Nat → Bool
  | [] => true
  | c :: r => mis p (c :: r) && freeB p r
theorem free_of {p : List Nat} (z : List Nat) : ∀ {b : List Nat} (r : List Nat), freeB p b = true → replL p z 0 (b ++ r) = b ++ replL p z 0 r
  | [], r, _ => rfl
  | c :: b, r, h => by
    unfold freeB at h
    rw [Bool.and_eq_true] at h
    have h1 := mis_of r h.1
    rw [List.cons_append] at h1 ⊢
    rw [replL, if_neg (by rw [h1]; simp), free_of z r h.2]; rfl
theorem replL_map {p z : List Nat} {f f' : Nat → List Nat} (hp : p ≠ []) (h : ∀ c, (f c = p ∧ f' c = z) ∨ (f' c = f c ∧ freeB p (f c) = true)) :
    ∀ l : List Nat, replL p z 0 (l.flatMap f) = l.flatMap f'
  | [] => rfl
  | c :: r => by
    rw [List.flatMap_cons, List.flatMap_cons]
    rcases h c with ⟨h1, h2⟩ | ⟨h1, h2⟩
    · rw [h1, replL_hit z hp, replL_map hp h r, h2]
    · rw [free_of z _ h2, replL_map hp h r, h1]
def ent (c : Nat) : List Nat := if c = 38 then [38, 97, 109, 112, 59] else if c = 60 then [38, 108, 116, 59] else if c = 62 then [38, 103, 116, 59] else if c = 47 then [38, 115, 111, 108, 59] else if c = 46 then [38, 100, 111, 116, 59] else [38, 112, 99, 116, 59]
def six : List Nat := [38, 60, 62, 47, 46, 37]
def imS (S : List Nat) (c : Nat) : List Nat := if c ∈ S then ent c else [c]
theorem free_pairs : ∀ a ∈ six, ∀ c ∈ six, a ≠ c → freeB (ent a) (ent c) = true := by decide
theorem free_signs : ∀ a ∈ six, ∀ c ∈ six, a ≠ 38 → freeB [a] (ent c) = true := by decide
theorem ent_head (a : Nat) : ∃ r, ent a = 38 :: r := by
  unfold ent
  repeat' split
  all_goals exact ⟨_, rfl⟩
theorem ent_ne (c : Nat) : ent c ≠ [] := by
  obtain ⟨r, e⟩ := ent_head c
  rw [e]; simp
theorem free_one {a c : Nat} (h : c ≠ 38) : freeB (ent a) [c] = true := by
  obtain ⟨r, e⟩ := ent_head a
  rw [e]
  simp [freeB, mis, Ne.symm h]
/-- unescape one sign -/
theorem un_stage {S : List Nat} (h38 : 38 ∈ S) (hS : ∀ c ∈ S, c ∈ six) {a : Nat} (ha : a ∈ S) (l : List Nat) : replL (ent a) [a] 0 (l.flatMap (imS S)) = l.flatMap (imS (S.filter (· != a))) := by
  refine replL_map (ent_ne a) (fun c => ?_) l
  by_cases hc : c = a
  · subst hc
    left
    unfold imS
    rw [if_pos ha, if_neg (by simp)]
    exact ⟨rfl, rfl⟩
  · right
    unfold imS
    by_cases h1 : c ∈ S
    · rw [if_pos h1, if_pos (List.mem_filter.mpr ⟨h1, by simpa using hc⟩)]
      exact ⟨rfl, free_pairs a (hS a ha) c (hS c h1) (Ne.symm hc)⟩
    · rw [if_neg h1, if_neg (fun h => h1 (List.mem_filter.mp h).1)]
      exact ⟨rfl, free_one (fun e => h1 (e ▸ h38))⟩
/-- escape one sign -/
theorem es_stage {S : List Nat} (hS : ∀ c ∈ S, c ∈ six) {a : Nat} (ha : a ∈ six) (hn : a ∉ S) (h38 : a = 38 → S = []) (l : List Nat) : replL [a] (ent a) 0 (l.flatMap (imS S)) = l.flatMap (imS (a :: S)) := by
  refine replL_map (by simp) (fun c => ?_) l
  by_cases hc : c = a
  · subst hc
    left
    unfold imS
    rw [if_neg hn, if_pos (.head _)]
    exact ⟨rfl, rfl⟩
  · right
    unfold imS
    by_cases h1 : c ∈ S
    · rw [if_pos h1, if_pos (.tail _ h1)]
      exact ⟨rfl, free_signs a ha c (hS c h1) (fun e => by rw [h38 e] at h1; cases h1)⟩
    · rw [if_neg h1, if_neg (fun h => by rcases List.mem_cons.mp h with h | h; exact hc h; exact h1 h)]
      exact ⟨rfl, by simp [freeB, mis]; exact fun e => hc e.symm⟩
theorem imS_nil (l : List Nat) : l.flatMap (imS []) = l := by
  induction l with
  | nil => rfl
  | cons c r ih => rw [List.flatMap_cons, ih]; rfl
theorem imS_congr {S S' : List Nat} (h : ∀ c, c ∈ S ↔ c ∈ S') : imS S = imS S' := by
  funext c
  unfold imS
  by_cases h1 : c ∈ S
  · rw [if_pos h1, if_pos ((h c).mp h1)]
  · rw [if_neg h1, if_neg (fun e => h1 ((h c).mpr e))]
/-! the tables -/
def refOf (c : Nat) : Str := ⟨(ent c).toArray⟩
def one (c : Nat) : Str := ⟨#[c]⟩
def Tb (y : List Nat) (qs qb : List Row4) : Prop := qs.map (fun q => (q.1, q.2.2.1)) = y.map (fun c => (one c, refOf c)) ∧ qb.map (fun q => (q.1, q.2.2.1)) = y.map (fun c => (refOf c, one c))
def Ys : List (List Nat) := [[47, 46], [47], [46], [], [46, 47], [37, 47], [47, 46, 37]]
theorem cl_ref (c : Nat) : cl (refOf c) = ent c := by simp [refOf]
theorem cl_one (c : Nat) : cl (one c) = [c] := rfl
theorem repAll_prs (x : Str) (qs : List Row4) : repAll x qs = (qs.map (fun q => (q.1, q.2.2.1))).foldl (fun s q => Txt.replace s q.1 q.2) x := by
  unfold repAll; rw [List.foldl_map]
theorem rep_one (x : Str) (c : Nat) {z : Str} : cl (Txt.replace x (one c) z) = replL [c] (cl z) 0 (cl x) := cl_replace x (one c) z (Nat.le_refl _)
theorem ref_len (c : Nat) : 1 ≤ (refOf c).length := by
  rw [← cl_len, cl_ref]
  obtain ⟨r, e⟩ := ent_head c
  rw [e]; simp
theorem rep_ref (x : Str) (c : Nat) {z : Str} : cl (Txt.replace x (refOf c) z) = replL (ent c) (cl z) 0 (cl x) := by
  rw [cl_replace x (refOf c) z (ref_len c), cl_ref]
/-- the signs that a table images, with the three -/
def sg (y : List Nat) : List Nat := 38 :: 60 :: 62 :: y
theorem es_rows : ∀ (y S : List Nat) (x : Str) (l : List Nat), cl x = l.flatMap (imS S) → (∀ c ∈ S, c ∈ six) → (∀ c ∈ y, c ∈ six ∧ c ≠ 38 ∧ c ∉ S) → y.Nodup →
    cl ((y.map (fun c => (one c, refOf c))).foldl (fun s q => Txt.replace s q.1 q.2) x) = l.flatMap (imS (y.reverse ++ S))
  | [], S, x, l, hx, _, _, _ => hx
  | a :: y, S, x, l, hx, hS, hy, hn => by
    rw [List.map_cons, List.foldl_cons]
    obtain ⟨h1, h2, h3⟩ := hy a (.head _)
    obtain ⟨n1, n2⟩ := List.nodup_cons.mp hn
    have hx' : cl (Txt.replace x (one a) (refOf a)) = l.flatMap (imS (a :: S)) := by
      rw [rep_one, hx, cl_ref, es_stage hS h1 h3 (fun e => absurd e h2)]
    rw [es_rows y (a :: S) _ l hx' (fun c hc => by rcases List.mem_cons.mp hc with rfl | hc; exact h1; exact hS c hc) (fun c hc => ⟨(hy c (.tail _ hc)).1, (hy c (.tail _ hc)).2.1, fun hm => ?_⟩) n2]
    · simp
    · rcases List.mem_cons.mp hm with rfl | hm
      · exact n1 hc
      · exact (hy c (.tail _ hc)).2.2 hm
theorem cl_esc3 (x : Str) : cl (esc3 x) = (cl x).flatMap (imS [60, 62, 38]) := by
  unfold esc3
  rw [show Str.ofString "<" = one 60 by decide, show Str.ofString ">" = one 62 by decide, show Str.ofString "&" = one 38 by decide, rep_one, rep_one, rep_one,
    show cl (Str.ofString "&amp;") = ent 38 by decide, show cl (Str.ofString "&lt;") = ent 60 by decide, show cl (Str.ofString "&gt;") = ent 62 by decide]
  have h0 := es_stage (S := []) (by simp) (a := 38) (by decide) (by simp) (fun _ => rfl) (cl x)
  rw [imS_nil] at h0
  rw [h0, es_stage (by decide) (by decide) (by decide) (by decide), es_stage (by decide) (by decide) (by decide) (by decide)]
theorem ys_ok {y : List Nat} (hy : y ∈ Ys) : (∀ c ∈ y, c ∈ six ∧ c ≠ 38 ∧ c ∉ [60, 62, 38]) ∧ y.Nodup := by
  revert y; decide
theorem cl_esc {y : List Nat} {qs qb : List Row4} (hy : y ∈ Ys) (T : Tb y qs qb) (x : Str) : cl (escT x qs) = (cl x).flatMap (imS (sg y)) := by
  unfold escT
  rw [repAll_prs, T.1, es_rows y [60, 62, 38] _ _ (cl_esc3 x) (by decide) (ys_ok hy).1 (ys_ok hy).2, imS_congr (S' := sg y)]
  intro c
  unfold sg
  simp only [List.mem_append, List.mem_reverse, List.mem_cons, List.not_mem_nil, or_false]
  generalize (c ∈ y) = p
  by_cases hp : p
  · simp [hp]
  · simp only [hp, false_or, or_false]; omega
theorem un_rows : ∀ (y S : List Nat) (x : Str) (l : List Nat), cl x = l.flatMap (imS S) → 38 ∈ S → (∀ c ∈ S, c ∈ six) → (∀ c ∈ y, c ∈ S ∧ c ≠ 38) → y.Nodup →
    ∃ S', cl ((y.map (fun c => (refOf c, one c))).foldl (fun s q => Txt.replace s q.1 q.2) x) = l.flatMap (imS S') ∧ ∀ c, c ∈ S' ↔ c ∈ S ∧ c ∉ y
  | [], S, x, l, hx, _, _, _, _ => ⟨S, hx, fun c => by simp⟩
  | a :: y, S, x, l, hx, h38, hS, hy, hn => by
    rw [List.map_cons, List.foldl_cons]
    obtain ⟨h1, h2⟩ := hy a (.head _)
    obtain ⟨n1, n2⟩ := List.nodup_cons.mp hn
    have hx' : cl (Txt.replace x (refOf a) (one a)) = l.flatMap (imS (S.filter (· != a))) := by
      rw [rep_ref, hx, cl_one, un_stage h38 hS h1]
    obtain ⟨S', e, hm⟩ := un_rows y (S.filter (· != a)) _ l hx' (List.mem_filter.mpr ⟨h38, by simpa using Ne.symm h2⟩) (fun c hc => hS c (List.mem_filter.mp hc).1)
      (fun c hc => ⟨List.mem_filter.mpr ⟨(hy c (.tail _ hc)).1, by simp; rintro rfl; exact n1 hc⟩, (hy c (.tail _ hc)).2⟩) n2
    refine ⟨S', e, fun c => ?_⟩
    rw [hm, List.mem_filter, List.mem_cons, bne_iff_ne]
    constructor
    · rintro ⟨⟨a1, a2⟩, a3⟩
      exact ⟨a1, fun h => h.elim a2 a3⟩
    · rintro ⟨a1, a2⟩
      exact ⟨⟨a1, fun e => a2 (.inl e)⟩, fun e => a2 (.inr e)⟩
theorem sg_six {y : List Nat} (hy : y ∈ Ys) : ∀ c ∈ sg y, c ∈ six := by
  revert y; decide
/-- unescape reads escape back -/
theorem cl_unesc {y : List Nat} {qs qb : List Row4} (hy : y ∈ Ys) (T : Tb y qs qb) {x : Str} {l : List Nat} (hx : cl x = l.flatMap (imS (sg y))) : cl (unescT x qb) = l := by
  unfold unescT une2
  rw [repAll_prs, T.2]
  have h1 : cl (Txt.replace x (Str.ofString "&lt;") (Str.ofString "<")) = l.flatMap (imS ((sg y).filter (· != 60))) := by
    rw [show Str.ofString "&lt;" = refOf 60 by decide, show Str.ofString "<" = one 60 by decide, rep_ref, hx, cl_one, un_stage (by unfold sg; simp) (sg_six hy) (by unfold sg; simp)]
  have h2 : cl (Txt.replace (Txt.replace x (Str.ofString "&lt;") (Str.ofString "<")) (Str.ofString "&gt;") (Str.ofString ">")) = l.flatMap (imS (38 :: y)) := by
    rw [show Str.ofString "&gt;" = refOf 62 by decide, show Str.ofString ">" = one 62 by decide, rep_ref, h1, cl_one, un_stage (by unfold sg; simp) (fun c hc => sg_six hy c (List.mem_filter.mp hc).1) (by unfold sg; simp)]
    congr 1
    apply imS_congr
    intro c
    have h3 := fun h => ((ys_ok hy).1 c h).2.2
    simp only [List.mem_filter, sg, List.mem_cons, bne_iff_ne, List.not_mem_nil, or_false] at h3 ⊢
    by_cases hp : c ∈ y
    · have := h3 hp
      simp only [hp, or_true, true_and, iff_true]
      simp only [not_or] at this
      omega
    · simp only [hp, or_false]; omega
  obtain ⟨S', e, hm⟩ := un_rows y (38 :: y) _ l h2 (.head _) (fun c hc => sg_six hy c (by unfold sg; rcases List.mem_cons.mp hc with rfl | hc; exact .head _; exact .tail _ (.tail _ (.tail _ hc)))) (fun c hc => ⟨.tail _ hc, ((ys_ok hy).1 c hc).2.1⟩) (ys_ok hy).2
  have e2 : imS S' = imS [38] := imS_congr fun c => by
    rw [hm, List.mem_cons, List.mem_singleton]
    constructor
    · rintro ⟨h | h, h3⟩
      · exact h
      · exact absurd h h3
    · rintro rfl
      exact ⟨.inl rfl, fun h => ((ys_ok hy).1 _ h).2.1 rfl⟩
  rw [e2] at e
  rw [show Str.ofString "&amp;" = refOf 38 by decide, show Str.ofString "&" = one 38 by decide, rep_ref, e, cl_one, un_stage (.head _) (by decide) (.head _)]
  exact imS_nil l
end
section
open PySem.Builtin PySem.Builtin.Str
/-! the image is the escape -/
theorem cl_glue (z : Str) : ∀ xs : List Str, cl (Str.join z xs) = match xs with | [] => [] | x :: r => cl x ++ (r.map fun y => cl z ++ cl y).flatten
  | [] => rfl
  | [x] => by show cl x = cl x ++ []; rw [List.append_nil]
  | x :: y :: r => by
    show cl (x ++ z ++ Str.join z (y :: r)) = _
    rw [cl_app, cl_app, cl_glue z (y :: r)]
    simp
theorem cl_join0 (xs : List Str) : cl (Txt.join (Str.ofString "") xs) = (xs.map cl).flatten := by
  show cl (glued _ xs) = _
  rw [StrLaws.glued_eq_join, cl_glue]
  cases xs with
  | nil => rfl
  | cons x r => simp [cl_emp]
theorem inter_flat (x : List Nat) (r : List (List Nat)) : inter (x :: r) = x ++ (r.map fun y => 47 :: y).flatten := by
  induction r generalizing x with
  | nil => simp [inter]
  | cons y r ih => rw [inter_cons (by simp), ih y]; simp
theorem cl_joinS (xs : List Str) : cl (Txt.join (Str.ofString "/") xs) = inter (xs.map cl) := by
  show cl (glued _ xs) = _
  rw [StrLaws.glued_eq_join, cl_glue]
  cases xs with
  | nil => rfl
  | cons x r => rw [List.map_cons, inter_flat, cl_sl]; simp [List.map_map, Function.comp_def]
theorem rowOr_tb : ∀ {y : List Nat} {qs : List Row4}, qs.map (fun q => (q.1, q.2.2.1)) = y.map (fun c => (one c, refOf c)) → ∀ c, rowOr qs (one c) = if c ∈ y then refOf c else one c
  | [], [], _, c => by simp [rowOr, rowGet]
  | a :: y, q :: qs, h, c => by
    rw [List.map_cons, List.map_cons, List.cons.injEq] at h
    obtain ⟨h1, h2⟩ := h
    have ih := rowOr_tb h2 c
    have e1 : q.1 = one a := congrArg Prod.fst h1
    have e2 : q.2.2.1 = refOf a := congrArg Prod.snd h1
    unfold rowOr rowGet at ih ⊢
    rw [List.find?_cons]
    by_cases hc : c = a
    · subst hc
      have : decide (q.1 = one c) = true := decide_eq_true e1
      rw [this, if_pos (.head _)]
      exact e2
    · have : decide (q.1 = one c) = false := decide_eq_false fun e => hc (by
        have := congrArg cl (e1.symm.trans e)
        simpa [one] using this.symm)
      rw [this]
      refine ih.trans ?_
      by_cases hy : c ∈ y
      · rw [if_pos hy, if_pos (.tail _ hy)]
      · rw [if_neg hy, if_neg (fun h => (List.mem_cons.mp h).elim hc hy)]
  | [], _ :: _, h, _ => by simp at h
  | _ :: _, [], h, _ => by simp at h
theorem cl_img1 {y : List Nat} {qs qb : List Row4} (T : Tb y qs qb) (c : Nat) : cl (img1 qs c) = imS (sg y) c := by
  unfold img1 img3 imS sg
  by_cases h1 : c = 38
  · subst h1; rw [if_pos rfl, if_pos (.head _)]; show cl (Str.ofString "&amp;") = ent 38; decide
  · rw [if_neg h1]
    by_cases h2 : c = 60
    · subst h2; rw [if_pos rfl, if_pos (.tail _ (.head _))]; show cl (Str.ofString "&lt;") = ent 60; decide
    · rw [if_neg h2]
      by_cases h3 : c = 62
      · subst h3; rw [if_pos rfl, if_pos (.tail _ (.tail _ (.head _)))]; show cl (Str.ofString "&gt;") = ent 62; decide
      · rw [if_neg h3]
        show cl (rowOr qs (one c)) = _
        rw [rowOr_tb T.1 c]
        by_cases hy : c ∈ y
        · rw [if_pos hy, if_pos (.tail _ (.tail _ (.tail _ hy))), cl_ref]
        · rw [if_neg hy, if_neg (fun h => by
            simp only [List.mem_cons] at h
            rcases h with h | h | h | h
            · exact h1 h
            · exact h2 h
            · exact h3 h
            · exact hy h)]; rfl
theorem cl_img {y : List Nat} {qs qb : List Row4} (T : Tb y qs qb) (x : Str) : cl (imgT x qs) = (cl x).flatMap (imS (sg y)) := by
  unfold imgT imgs
  rw [cl_join0, List.map_map, List.flatMap_def]
  congr 1
  exact List.map_congr_left fun c _ => cl_img1 T c
theorem img_esc {y : List Nat} {qs qb : List Row4} (hy : y ∈ Ys) (T : Tb y qs qb) (x : Str) : imgT x qs = escT x qs := cl_inj (by rw [cl_img T, cl_esc hy T])
/-! the images' signs -/
abbrev E (y l : List Nat) : List Nat := l.flatMap (imS (sg y))
theorem ent_free : ∀ c ∈ six, 47 ∉ ent c := by decide
theorem im_ne {y : List Nat} (c : Nat) : imS (sg y) c ≠ [] := by unfold imS; split; exact ent_ne c; simp
theorem im_free {y : List Nat} (hy : y ∈ Ys) {c : Nat} (h : c ≠ 47 ∨ 47 ∈ y) : 47 ∉ imS (sg y) c := by
  unfold imS
  by_cases h1 : c ∈ sg y
  · rw [if_pos h1]; exact ent_free c (sg_six hy c h1)
  · rw [if_neg h1]
    have : c ≠ 47 := h.elim id fun h2 e => h1 (by rw [e]; exact .tail _ (.tail _ (.tail _ h2)))
    simpa using Ne.symm this
theorem im_bare {y : List Nat} (h : 47 ∉ y) : imS (sg y) 47 = [47] := by
  unfold imS sg
  rw [if_neg (by simpa using h)]
theorem E_nil {y l : List Nat} : E y l = [] ↔ l = [] := by
  cases l with
  | nil => simp
  | cons c r => simp [im_ne]
theorem E_free {y l : List Nat} (hy : y ∈ Ys) (h : 47 ∉ l ∨ 47 ∈ y) : 47 ∉ E y l := by
  intro hm
  obtain ⟨c, hc, h2⟩ := List.mem_flatMap.mp hm
  refine im_free hy (h.imp (fun h3 e => h3 (e ▸ hc)) id) h2
theorem E_head {y l : List Nat} (hy : y ∈ Ys) (h : 47 ∉ y) : (E y l).head? = some 47 ↔ l.head? = some 47 := by
  cases l with
  | nil => simp
  | cons c r =>
    unfold E
    rw [List.flatMap_cons, List.head?_cons]
    by_cases hc : c = 47
    · subst hc; rw [im_bare h]; simp
    · have h1 := im_free hy (c := c) (.inl hc)
      cases hi : imS (sg y) c with
      | nil => exact absurd hi (im_ne c)
      | cons a b =>
        rw [hi] at h1
        simp only [List.cons_append, List.head?_cons, Option.some.injEq]
        exact ⟨fun e => absurd (e ▸ List.Mem.head _) h1, fun e => absurd e hc⟩
theorem last_app {a b : List Nat} (h : b ≠ []) : (a ++ b).getLast? = b.getLast? := by
  rw [List.getLast?_append]
  cases hb : b.getLast? with
  | none => exact absurd (List.getLast?_eq_none_iff.mp hb) h
  | some v => rfl
theorem E_last {y l : List Nat} (hy : y ∈ Ys) (h : 47 ∉ y) : (E y l).getLast? = some 47 ↔ l.getLast? = some 47 := by
  rcases List.eq_nil_or_concat l with rfl | ⟨r, c, rfl⟩
  · simp
  · rw [List.concat_eq_append]
    have e1 : E y (r ++ [c]) = E y r ++ imS (sg y) c := by unfold E; rw [List.flatMap_append]; simp
    rw [e1, last_app (im_ne c), last_app (by simp)]
    by_cases hc : c = 47
    · subst hc; rw [im_bare h]
    · have h1 := im_free hy (c := c) (.inl hc)
      constructor
      · intro e; exact absurd (List.mem_of_getLast? e) h1
      · intro e; exact absurd (by simpa using e) hc
theorem E_jStep {y p b : List Nat} (hy : y ∈ Ys) (h : 47 ∉ y) : jStepL (E y p) (E y b) = E y (jStepL p b) := by
  unfold jStepL
  by_cases h1 : b.head? = some 47 ∨ p = []
  · rw [if_pos h1, if_pos (h1.imp (E_head hy h).mpr E_nil.mpr)]
  · rw [if_neg h1, if_neg (fun h2 => h1 (h2.imp (E_head hy h).mp E_nil.mp))]
    by_cases h2 : p.getLast? = some 47
    · rw [if_pos h2, if_pos ((E_last hy h).mpr h2)]; unfold E; rw [List.flatMap_append]
    · rw [if_neg h2, if_neg (fun h3 => h2 ((E_last hy h).mp h3))]; unfold E; rw [List.flatMap_append, List.flatMap_cons, im_bare h]; rfl
theorem E_joinL {y : List Nat} (hy : y ∈ Ys) (h : 47 ∉ y) : ∀ (xs : List (List Nat)) (x : List Nat), joinL (E y x) (xs.map (E y)) = E y (joinL x xs)
  | [], x => rfl
  | b :: r, x => by
    show joinL (jStepL (E y x) (E y b)) (r.map (E y)) = E y (joinL (jStepL x b) r)
    rw [E_jStep hy h, E_joinL hy h r]
theorem E_inj {y : List Nat} {qs qb : List Row4} (hy : y ∈ Ys) (T : Tb y qs qb) {a b : List Nat} (h : E y a = E y b) : a = b := by
  have ha := cl_unesc hy T (x := ⟨(E y a).toArray⟩) (l := a) (by simp)
  have hb := cl_unesc hy T (x := ⟨(E y a).toArray⟩) (l := b) (by simp [h])
  rw [← ha, hb]
end
section
open PySem.Builtin PySem.Builtin.Str
/-- what is kept of a row of pieces -/
def keptL (P : List (List Nat)) : List (List Nat) := P.dropLast.filter ne0 ++ [P.getLastD []]
/-! the join of a row without slashes -/
def joinLA : List (List Nat) → List Nat
  | [] => []
  | x :: r => joinL x r
theorem joinLA_snoc {xs : List (List Nat)} (h : xs ≠ []) (b : List Nat) : joinLA (xs ++ [b]) = jStepL (joinLA xs) b := by
  cases xs with
  | nil => exact absurd rfl h
  | cons x r => show joinL x (r ++ [b]) = jStepL (joinL x r) b; unfold joinL; rw [List.foldl_append]; rfl
theorem cl_joinA (xs : List Str) : cl (joinA xs) = joinLA (xs.map cl) := by
  cases xs with
  | nil => exact cl_emp
  | cons x r => exact cl_join x r
theorem keptL_snoc {xs : List (List Nat)} (h : xs ≠ []) (b : List Nat) : keptL (xs ++ [b]) = xs.filter ne0 ++ [b] := by
  unfold keptL
  rw [List.dropLast_concat]
  simp
theorem filter_last {xs : List (List Nat)} (h : xs ≠ []) : xs.filter ne0 = xs.dropLast.filter ne0 ++ (if xs.getLastD [] = [] then [] else [xs.getLastD []]) := by
  conv => lhs; rw [← snoc_last [] h]
  rw [List.filter_append]
  congr 1
  by_cases h1 : xs.getLastD [] = []
  · rw [if_pos h1, h1]; rfl
  · rw [if_neg h1, List.filter_cons]
    have : ne0 (xs.getLastD []) = true := by unfold ne0; simpa using h1
    rw [if_pos this]; rfl
theorem inter_nil_iff {F : List (List Nat)} {l : List Nat} (hF : ∀ x ∈ F, x ≠ []) : inter (F ++ [l]) = [] ↔ F = [] ∧ l = [] := by
  cases F with
  | nil => simp [inter]
  | cons x r =>
    rw [List.cons_append, inter_cons (by simp)]
    simp
theorem inter_last {F : List (List Nat)} {l : List Nat} (hl : 47 ∉ l) : (inter (F ++ [l])).getLast? = some 47 ↔ F ≠ [] ∧ l = [] := by
  cases F with
  | nil =>
    show l.getLast? = some 47 ↔ _
    simp only [ne_eq, not_true_eq_false, false_and, iff_false]
    intro h; exact hl (List.mem_of_getLast? h)
  | cons x r =>
    rw [inter_snoc l (by simp)]
    by_cases h0 : l = []
    · subst h0; simp
    · have : (inter (x :: r) ++ 47 :: l).getLast? = l.getLast? := by
        rw [show inter (x :: r) ++ 47 :: l = (inter (x :: r) ++ [47]) ++ l by simp]
        exact last_app h0
      rw [this]
      simp only [ne_eq, reduceCtorEq, not_false_eq_true, true_and]
      exact ⟨fun h => absurd (List.mem_of_getLast? h) hl, fun h => absurd h h0⟩
theorem join_free : ∀ (n : Nat) (xs : List (List Nat)), xs.length = n + 1 → (∀ x ∈ xs, 47 ∉ x) → joinLA xs = inter (keptL xs)
  | n, xs, hl, hf => by
    rcases List.eq_nil_or_concat xs with rfl | ⟨ns, b, rfl⟩
    · exact absurd hl (by simp)
    rw [List.concat_eq_append] at hl hf ⊢
    have hl' : ns.length = n := by simpa using hl
    cases n with
    | zero =>
      have : ns = [] := List.length_eq_zero_iff.mp hl'
      subst this
      rfl
    | succ n =>
      have hn : ns ≠ [] := fun e => by rw [e] at hl'; cases hl'
      have hfn : ∀ x ∈ ns, 47 ∉ x := fun x hx => hf x (List.mem_append_left _ hx)
      have hfb : 47 ∉ b := hf b (List.mem_append_right _ (.head _))
      have ih := join_free n ns hl' hfn
      rw [joinLA_snoc hn, ih, keptL_snoc hn]
      have hb : ¬ b.head? = some 47 := fun h => hfb (List.mem_of_head? h)
      have hF : ∀ x ∈ ns.dropLast.filter ne0, x ≠ [] := fun x hx => by
        have := (List.mem_filter.mp hx).2
        unfold ne0 at this; simpa using this
      have hlast : 47 ∉ ns.getLastD [] := by
        rw [List.getLastD_eq_getLast?]
        cases hg : ns.getLast? with
        | none => simp
        | some v => exact hfn v (List.mem_of_getLast? hg)
      unfold jStepL
      have e0 : inter (keptL ns) = inter (ns.dropLast.filter ne0 ++ [ns.getLastD []]) := rfl
      rw [e0, filter_last hn]
      by_cases h1 : inter (ns.dropLast.filter ne0 ++ [ns.getLastD []]) = []
      · rw [if_pos (.inr h1)]
        obtain ⟨a1, a2⟩ := (inter_nil_iff hF).mp h1
        rw [a1, if_pos a2]; rfl
      · rw [if_neg (by rintro (h | h); exact hb h; exact h1 h)]
        by_cases h2 : (inter (ns.dropLast.filter ne0 ++ [ns.getLastD []])).getLast? = some 47
        · rw [if_pos h2]
          obtain ⟨a1, a2⟩ := (inter_last hlast).mp h2
          rw [if_pos a2, a2, List.append_nil, inter_snoc [] a1, inter_snoc b a1]; simp
        · rw [if_neg h2]
          by_cases h3 : ns.getLastD [] = []
          · rw [if_pos h3]
            have a1 : ns.dropLast.filter ne0 = [] := Classical.byContradiction fun a1 => h2 ((inter_last hlast).mpr ⟨a1, h3⟩)
            exact absurd ((inter_nil_iff hF).mpr ⟨a1, h3⟩) h1
          · rw [if_neg h3, inter_snoc b (by simp)]
/-! climbing -/
theorem sep_iff {c : Nat} : sep c = true ↔ c = 47 := by simp [sep]
theorem all_rep {l : List Nat} (h : l.all sep = true) : l = List.replicate l.length 47 := by
  rw [all_sep] at h; exact eq_of_beq h
theorem takeWhile_all {l r : List Nat} (h : l.all sep = true) (hr : 47 ∉ r) : (l ++ r).takeWhile sep = l ∧ (l ++ r).dropWhile sep = r := by
  induction l with
  | nil =>
    cases r with
    | nil => exact ⟨rfl, rfl⟩
    | cons c r =>
      have : sep c = false := by
        have : c ≠ 47 := fun e => hr (e ▸ .head _)
        simpa [sep] using this
      simp [this]
  | cons a l ih =>
    rw [List.all_cons, Bool.and_eq_true] at h
    obtain ⟨i1, i2⟩ := ih h.2
    rw [List.cons_append, List.takeWhile_cons, List.dropWhile_cons, if_pos h.1, if_pos h.1, i1, i2]
    exact ⟨rfl, rfl⟩
theorem takeWhile_some {l r : List Nat} (h : ¬ l.all sep = true) : (l ++ r).takeWhile sep = l.takeWhile sep ∧ (l ++ r).dropWhile sep = l.dropWhile sep ++ r := by
  induction l with
  | nil => exact absurd rfl h
  | cons a l ih =>
    rw [List.cons_append, List.takeWhile_cons, List.dropWhile_cons, List.takeWhile_cons, List.dropWhile_cons]
    by_cases ha : sep a = true
    · rw [List.all_cons, ha, Bool.true_and] at h
      obtain ⟨i1, i2⟩ := ih h
      rw [if_pos ha, if_pos ha, if_pos ha, if_pos ha, i1, i2]
      exact ⟨rfl, rfl⟩
    · rw [if_neg ha, if_neg ha, if_neg ha, if_neg ha]
      exact ⟨rfl, rfl⟩
theorem spl_rep (k : Nat) (r : List Nat) : spl (List.replicate k 47 ++ r) = List.replicate k [] ++ spl r := by
  induction k with
  | zero => rfl
  | succ k ih => rw [List.replicate_succ, List.cons_append, spl_sl, ih]; rfl
theorem spl_last : ∀ {d : List Nat}, d ≠ [] → ¬ d.getLast? = some 47 → (spl d).getLastD [] ≠ []
  | [], h, _ => absurd rfl h
  | [c], _, h => by
    have hc : c ≠ 47 := fun e => h (by rw [e]; rfl)
    rw [spl_c hc]; simp [spl]
  | c :: b :: r, _, h => by
    have h' : ¬ (b :: r).getLast? = some 47 := by rwa [List.getLast?_cons_cons] at h
    have ih := spl_last (by simp) h'
    by_cases hc : c = 47
    · subst hc
      rw [spl_sl]
      obtain ⟨p, q, e⟩ := List.exists_cons_of_ne_nil (spl_ne (b :: r))
      rw [e] at ih ⊢
      rwa [List.getLastD_eq_getLast?, List.getLast?_cons_cons, ← List.getLastD_eq_getLast?]
    · rw [spl_c hc]
      obtain ⟨p, q, e⟩ := List.exists_cons_of_ne_nil (spl_ne (b :: r))
      rw [e] at ih ⊢
      cases q with
      | nil => simp
      | cons q1 q2 =>
        show ((c :: p) :: q1 :: q2).getLastD [] ≠ []
        rwa [List.getLastD_eq_getLast?, List.getLast?_cons_cons, ← List.getLastD_eq_getLast?] at ih ⊢
def climbL : Nat → List Nat → List (List Nat) → List Nat × List (List Nat)
  | 0, a, r => (a, r)
  | n + 1, a, r => if (lHead a).all sep = true then (lHead a, lTail a :: r) else climbL n (lHead a) (lTail a :: r)
theorem mem_tw {p : Nat → Bool} : ∀ {l : List Nat} {x : Nat}, x ∈ l.takeWhile p → p x = true
  | [], _, h => by simp at h
  | a :: l, x, h => by
    rw [List.takeWhile_cons] at h
    split at h
    · rename_i ha
      rcases List.mem_cons.mp h with rfl | h
      · exact ha
      · exact mem_tw h
    · simp at h
theorem tail_free (l : List Nat) : 47 ∉ lTail l := by
  unfold lTail
  intro h
  have h1 : 47 ∈ l.reverse.takeWhile fun c => !sep c := by simpa using h
  have := mem_tw h1
  simp [sep] at this
theorem dropWhile_rep (p : Nat → Bool) : ∀ l : List Nat, l = l.takeWhile p ++ l.dropWhile p := fun l => (List.takeWhile_append_dropWhile).symm
theorem head0_end (l : List Nat) : lHead0 l = [] ∨ (lHead0 l).getLast? = some 47 := by
  unfold lHead0
  cases hd : l.reverse.dropWhile fun c => !sep c with
  | nil => left; rfl
  | cons a r =>
    right
    have h5 : (!sep a) = false := by
      have := List.head?_dropWhile_not (fun c => !sep c) l.reverse
      rw [hd] at this
      simpa using this
    have : a = 47 := by simpa [sep] using h5
    subst this
    simp
theorem rs_split (h : List Nat) : ∃ k, h = lRs h ++ List.replicate k 47 ∧ (lRs h = [] ∨ ¬ (lRs h).getLast? = some 47) := by
  unfold lRs
  have e := dropWhile_rep sep h.reverse
  have hall : (h.reverse.takeWhile sep).all sep = true := by
    rw [List.all_eq_true]; intro x hx; exact mem_tw hx
  refine ⟨(h.reverse.takeWhile sep).length, ?_, ?_⟩
  · have := congrArg List.reverse e
    rw [List.reverse_reverse, List.reverse_append] at this
    rw [all_rep hall, List.reverse_replicate] at this
    simpa using this
  · cases hd : h.reverse.dropWhile sep with
    | nil => left; rfl
    | cons a r =>
      right
      have h5 : sep a = false := by
        have := List.head?_dropWhile_not sep h.reverse
        rw [hd] at this
        simpa using this
      rw [List.reverse_cons]
      simp
      intro e; rw [e] at h5; exact absurd h5 (by decide)
theorem rs_all {h : List Nat} (h1 : ¬ h.all sep = true) : ¬ (lRs h).all sep = true := by
  obtain ⟨k, e, hl⟩ := rs_split h
  intro h2
  apply h1
  rw [e, List.all_append, h2]
  simp [sep]
theorem climb_is : ∀ (n : Nat) (l : List Nat) (r : List (List Nat)), l.length < n → climbL n l r = (l.takeWhile sep, keptL (spl (l.dropWhile sep)) ++ r)
  | 0, l, r, h => absurd h (by omega)
  | n + 1, l, r, h => by
    have htf := tail_free l
    have hl := head0_tail l
    unfold climbL
    by_cases h1 : (lHead0 l).all sep = true
    · have e : lHead l = lHead0 l := by unfold lHead; rw [if_pos h1]
      rw [e, if_pos h1]
      obtain ⟨e1, e2⟩ := takeWhile_all h1 htf
      rw [hl] at e1 e2
      rw [e1, e2, spl_free htf]; rfl
    · have e : lHead l = lRs (lHead0 l) := by unfold lHead; rw [if_neg h1]
      have h2 := rs_all h1
      rw [e, if_neg h2]
      have hlt := lHead_lt (l := l) (by rw [e]; simpa using h2)
      rw [e] at hlt
      rw [climb_is n _ _ (by omega)]
      obtain ⟨k, ek, hlast⟩ := rs_split (lHead0 l)
      generalize lRs (lHead0 l) = g at *
      have hg : ¬ g = [] := fun e => h2 (by rw [e]; rfl)
      have hgl := hlast.resolve_left hg
      have hk : ∃ j, k = j + 1 := by
        cases k with
        | zero =>
          exfalso
          rcases head0_end l with h3 | h3
          · rw [h3] at h1; exact h1 rfl
          · rw [ek] at h3; simp at h3; exact hgl h3
        | succ j => exact ⟨j, rfl⟩
      obtain ⟨j, rfl⟩ := hk
      have el : l = g ++ (List.replicate (j + 1) 47 ++ lTail l) := by
        conv => lhs; rw [← hl, ek]
        rw [List.append_assoc]
      obtain ⟨t1, t2⟩ := takeWhile_some (l := g) (r := List.replicate (j + 1) 47 ++ lTail l) h2
      rw [← el] at t1 t2
      rw [t1, t2]
      have ed : (g.dropWhile sep ++ (List.replicate (j + 1) 47 ++ lTail l)) = g.dropWhile sep ++ 47 :: (List.replicate j 47 ++ lTail l) := by
        rw [List.replicate_succ]; rfl
      rw [ed, spl_app, spl_rep, spl_free htf]
      have hd0 : g.dropWhile sep ≠ [] := by
        intro e0
        apply h2
        rw [List.all_eq_true]
        have := dropWhile_rep sep g
        rw [e0, List.append_nil] at this
        rw [this]
        intro x hx; exact mem_tw hx
      have hdl : ¬ (g.dropWhile sep).getLast? = some 47 := by
        have := dropWhile_rep sep g
        rw [this, last_app hd0] at hgl; exact hgl
      have hsl := spl_last hd0 hdl
      have hsn := spl_ne (g.dropWhile sep)
      generalize spl (g.dropWhile sep) = P at hsl hsn
      have e9 : keptL (P ++ (List.replicate j [] ++ [lTail l])) = keptL P ++ [lTail l] := by
        rw [← List.append_assoc, keptL_snoc (by simp [hsn]), List.filter_append]
        have : (List.replicate j ([] : List Nat)).filter ne0 = [] := by
          rw [List.filter_eq_nil_iff]; intro x hx; rw [List.eq_of_mem_replicate hx]; decide
        rw [this, List.append_nil, filter_last hsn, if_neg hsl]; rfl
      rw [e9, List.append_assoc]; rfl
end
section
open PySem.Builtin PySem.Builtin.Str
/-! normpath's root and rest -/
theorem cl_slice (x : Str) (a b : Nat) (hab : a ≤ b) : cl (Txt.slice x (some (a : Int)) (some (b : Int))) = ((cl x).drop a).take (b - a) := by
  have e : strSliceIndices (some (a : Int)) (some (b : Int)) 1 x.length = strSliceIndices (some ((min a x.length : Nat) : Int)) (some ((min b x.length : Nat) : Int)) 1 x.length := by
    have h1 : ¬ ((a : Int) < 0) := by omega
    have h2 : ¬ ((b : Int) < 0) := by omega
    have h3 : ¬ (((min a x.length : Nat) : Int) < 0) := by omega
    have h4 : ¬ (((min b x.length : Nat) : Int) < 0) := by omega
    have e1 : max (0 : Int) (min (a : Int) (x.length : Int)) = max (0 : Int) (min ((min a x.length : Nat) : Int) (x.length : Int)) := by omega
    have e2 : max (0 : Int) (min (b : Int) (x.length : Int)) = max (0 : Int) (min ((min b x.length : Nat) : Int) (x.length : Int)) := by omega
    simp only [strSliceIndices, h1, h2, h3, h4, if_false, show ((1 : Int) > 0) = True from by simp, if_true]
    rw [e1, e2]
  have hp := StrLaws.sliced_plain x (a := min a x.length) (b := min b x.length) (by omega) (by omega)
  have hl := congrArg List.length hp
  have hd : ((cl x).drop (min a x.length)).take (min b x.length - min a x.length) = ((cl x).drop a).take (b - a) := by
    have hn := cl_len x
    by_cases h1 : a < x.length
    · rw [show min a x.length = a by omega]
      by_cases h2 : b ≤ x.length
      · rw [show min b x.length = b by omega]
      · rw [show min b x.length = x.length by omega, List.take_of_length_le (by rw [List.length_drop]; omega), List.take_of_length_le (by rw [List.length_drop]; omega)]
    · have h3 : (cl x).drop (min a x.length) = [] := List.drop_eq_nil_of_le (by omega)
      have h4 : (cl x).drop a = [] := List.drop_eq_nil_of_le (by omega)
      rw [h3, h4]; simp
  unfold Txt.slice
  rw [e]
  split
  · rename_i h
    have h' : (strSliceIndices (some ((min a x.length : Nat) : Int)) (some ((min b x.length : Nat) : Int)) 1 x.length).length = x.length := by simpa using h
    rw [StrLaws.strSliceIndices_plain (by omega) (by omega), List.length_map, List.length_range] at h'
    rw [← hd, show min a x.length = 0 by omega, List.drop_zero, Nat.sub_zero, List.take_of_length_le (by rw [cl_len]; omega)]
  · show ((_ : List Nat).toArray).toList = _
    rw [List.toList_toArray, hp, ← hd]
theorem sr_cond (x : Str) : ((Txt.slice x (some 1) (some 2) != Str.ofString "/") = true ∨ (Txt.slice x (some 2) (some 3) == Str.ofString "/") = true) ↔ (¬ ((cl x).drop 1).take 1 = [47] ∨ ((cl x).drop 2).take 1 = [47]) := by
  have h1 : (Txt.slice x (some 1) (some 2) != Str.ofString "/") = !(((cl x).drop 1).take 1 == [47]) := by
    rw [cl_bne, cl_sl, show (1 : Int) = ((1 : Nat) : Int) from rfl, show (2 : Int) = ((2 : Nat) : Int) from rfl, cl_slice x 1 2 (by omega)]; rfl
  have h2 : (Txt.slice x (some 2) (some 3) == Str.ofString "/") = (((cl x).drop 2).take 1 == [47]) := by
    rw [cl_beq, cl_sl, show (3 : Int) = ((3 : Nat) : Int) from rfl, show (2 : Int) = ((2 : Nat) : Int) from rfl, cl_slice x 2 3 (by omega)]
  rw [h1, h2, beq_iff_eq, Bool.not_eq_true', beq_eq_false_iff_ne]
theorem sr_none {x : Str} (h : ¬ (cl x).head? = some 47) : srRoot x = Str.ofString "" ∧ srRest x = x := by
  have h0 : (Txt.slice x none (some 1) != Str.ofString "/") = true := by
    have : rooted x = false := by rw [Bool.eq_false_iff]; exact fun e => h ((rooted_iff x).mp e)
    show (!rooted x) = true
    rw [this]; rfl
  unfold srRoot srRest
  exact ⟨if_pos h0, if_pos h0⟩
theorem sr_one {x : Str} (h : (cl x).head? = some 47) (h1 : ¬ ((cl x).drop 1).take 1 = [47] ∨ ((cl x).drop 2).take 1 = [47]) : cl (srRoot x) = [47] ∧ cl (srRest x) = (cl x).drop 1 := by
  have h0 : ¬ (Txt.slice x none (some 1) != Str.ofString "/") = true := by
    show ¬ (!rooted x) = true
    rw [(rooted_iff x).mpr h]; decide
  have h2 := (sr_cond x).mpr h1
  unfold srRoot srRest
  rw [if_neg h0, if_pos h2, if_neg h0, if_pos h2]
  exact ⟨cl_sl, cl_slice_from (n := 1) (by rw [← cl_len]; cases hl : cl x with | nil => rw [hl] at h; cases h | cons => simp)⟩
theorem sr_two {x : Str} (h : (cl x).head? = some 47) (h1 : ¬ (¬ ((cl x).drop 1).take 1 = [47] ∨ ((cl x).drop 2).take 1 = [47])) : cl (srRoot x) = (cl x).take 2 ∧ cl (srRest x) = (cl x).drop 2 := by
  have h0 : ¬ (Txt.slice x none (some 1) != Str.ofString "/") = true := by
    show ¬ (!rooted x) = true
    rw [(rooted_iff x).mpr h]; decide
  have h2 := fun e => h1 ((sr_cond x).mp e)
  have hl : 2 ≤ x.length := by
    rw [← cl_len]
    rw [not_or, Classical.not_not] at h1
    have := congrArg List.length h1.1
    rw [List.length_take, List.length_drop] at this
    simp only [List.length_cons, List.length_nil] at this
    omega
  unfold srRoot srRest
  rw [if_neg h0, if_neg h2, if_neg h0, if_neg h2]
  exact ⟨cl_slice_to (n := 2) hl, cl_slice_from (n := 2) hl⟩
theorem srRoot_is (x : Str) : cl (srRoot x) = (if ((cl x).takeWhile sep).length < 3 then (cl x).takeWhile sep else [47]) ∧ ∃ n, cl (srRest x) = List.replicate n 47 ++ (cl x).dropWhile sep := by
  have a0 := @sr_none x
  have a1 := @sr_one x
  have a2 := @sr_two x
  cases hl : cl x with
  | nil =>
    rw [hl] at a0
    obtain ⟨e1, e2⟩ := a0 (by simp)
    rw [e1, e2, hl]
    exact ⟨cl_emp, 0, rfl⟩
  | cons c r =>
    rw [hl] at a0 a1 a2
    by_cases hc : c = 47
    · subst hc
      cases r with
      | nil =>
        obtain ⟨e1, e2⟩ := a1 rfl (.inl (by simp))
        rw [e1, e2]
        exact ⟨rfl, 0, rfl⟩
      | cons b r =>
        by_cases hb : b = 47
        · subst hb
          cases r with
          | nil =>
            obtain ⟨e1, e2⟩ := a2 rfl (by simp)
            rw [e1, e2]
            exact ⟨rfl, 0, rfl⟩
          | cons a r =>
            by_cases ha : a = 47
            · subst ha
              obtain ⟨e1, e2⟩ := a1 rfl (.inr (by simp))
              rw [e1, e2]
              have e : (47 :: 47 :: 47 :: r).takeWhile sep = 47 :: 47 :: 47 :: r.takeWhile sep := rfl
              have e' : (47 :: 47 :: 47 :: r).dropWhile sep = r.dropWhile sep := rfl
              have hall : (r.takeWhile sep).all sep = true := by rw [List.all_eq_true]; intro y hy; exact mem_tw hy
              rw [e, e', if_neg (by simp only [List.length_cons]; omega)]
              refine ⟨rfl, 2 + (r.takeWhile sep).length, ?_⟩
              rw [← List.replicate_append_replicate, ← all_rep hall, List.append_assoc, List.takeWhile_append_dropWhile]; rfl
            · have hsa : sep a = false := by simpa [sep] using ha
              obtain ⟨e1, e2⟩ := a2 rfl (by simp [ha])
              have e3 : (47 :: 47 :: a :: r).takeWhile sep = [47, 47] := by
                show 47 :: 47 :: (a :: r).takeWhile sep = _
                rw [List.takeWhile_cons, hsa]; rfl
              have e4 : (47 :: 47 :: a :: r).dropWhile sep = a :: r := by
                show (a :: r).dropWhile sep = _
                rw [List.dropWhile_cons, hsa]; rfl
              rw [e1, e2, e3, e4]
              exact ⟨rfl, 0, rfl⟩
        · have hsb : sep b = false := by simpa [sep] using hb
          obtain ⟨e1, e2⟩ := a1 rfl (.inl (by simp [hb]))
          have e3 : (47 :: b :: r).takeWhile sep = [47] := by
            show 47 :: (b :: r).takeWhile sep = _
            rw [List.takeWhile_cons, hsb]; rfl
          have e4 : (47 :: b :: r).dropWhile sep = b :: r := by
            show (b :: r).dropWhile sep = _
            rw [List.dropWhile_cons, hsb]; rfl
          rw [e1, e2, e3, e4]
          exact ⟨rfl, 0, rfl⟩
    · have hsc : sep c = false := by simpa [sep] using hc
      obtain ⟨e1, e2⟩ := a0 (by simpa using hc)
      rw [e1, e2, hl, List.takeWhile_cons, List.dropWhile_cons, hsc]
      exact ⟨cl_emp, 0, rfl⟩
/-! the two folds -/
def g0 (x : Str) : Bool := !(x.length == 0)
theorem npFold_filter (r : Str) : ∀ (cs acc : List Str), cs.foldl (npStep r) acc = (cs.filter g0).foldl (npStep r) acc
  | [], _ => rfl
  | c :: cs, acc => by
    rw [List.foldl_cons, List.filter_cons, npFold_filter r cs]
    by_cases h : c.length = 0
    · rw [if_neg (by simp [g0, h]), np_skip0 h]
    · rw [if_pos (by simp [g0, h]), List.foldl_cons]
def plR (bare : Bool) (qs : List Row4) (ps : List Str) : Nat × List Str := ps.foldr (fun p st => plStep bare qs st p) (0, [])
theorem plFold_rev (bare : Bool) (qs : List Row4) (ps : List Str) : plFold bare qs ps.reverse = plR bare qs ps := by
  unfold plFold plR; rw [List.foldl_reverse]
theorem plR_filter (bare : Bool) (qs : List Row4) : ∀ ps : List Str, plR bare qs ps = plR bare qs (ps.filter g0)
  | [] => rfl
  | p :: ps => by
    show plStep bare qs (plR bare qs ps) p = _
    rw [plR_filter bare qs ps, List.filter_cons]
    by_cases h : p.length = 0
    · rw [if_neg (by simp [g0, h])]
      unfold plStep
      rw [if_pos (.inl ((len_emp p).mpr h))]
    · rw [if_pos (by simp [g0, h])]; rfl
structure Pc (bare : Bool) (qs : List Row4) (p : Str) : Prop where
  ne : p.length ≠ 0
  gne : (imgT p qs).length ≠ 0
  dot : (imgT p qs == Str.ofString ".") = (bare && p == Str.ofString ".")
  up : (imgT p qs == Str.ofString "..") = (bare && p == Str.ofString "..")
theorem folds {r : Str} {bare : Bool} {qs : List Row4} : ∀ (ps : List Str), (∀ p ∈ ps, Pc bare qs p) → ∀ (k : Nat) (N : List Str), (∀ x ∈ N, (x == Str.ofString "..") = false) → (r.length ≠ 0 → k = 0) →
    (ps.map (fun x => imgT x qs)).foldl (npStep r) (List.replicate k (Str.ofString "..") ++ N) =
      if (plR bare qs ps).1 ≤ N.length then List.replicate k (Str.ofString "..") ++ N.take (N.length - (plR bare qs ps).1) ++ (plR bare qs ps).2
      else if r.length = 0 then List.replicate (k + (plR bare qs ps).1 - N.length) (Str.ofString "..") ++ (plR bare qs ps).2 else (plR bare qs ps).2
  | [], _, k, N, _, _ => by
    show _ = if 0 ≤ N.length then _ else _
    rw [if_pos (Nat.zero_le _)]
    show List.replicate k _ ++ N = List.replicate k _ ++ N.take (N.length - 0) ++ []
    rw [Nat.sub_zero, List.take_length, List.append_nil]
  | p :: ps, hp, k, N, hN, hk => by
    have P := hp p (.head _)
    have ih := folds (r := r) ps (fun q hq => hp q (.tail _ hq))
    have e : plR bare qs (p :: ps) = plStep bare qs (plR bare qs ps) p := rfl
    rw [List.map_cons, List.foldl_cons, e]
    have hpe : ¬ ((p == Str.ofString "") = true) := fun h => P.ne ((len_emp p).mp h)
    by_cases h1 : (imgT p qs == Str.ofString ".") = true
    · rw [np_skip1 P.gne h1, ih k N hN hk]
      have h2 : plStep bare qs (plR bare qs ps) p = plR bare qs ps := by
        rw [P.dot, Bool.and_eq_true] at h1
        unfold plStep; rw [if_pos (.inr h1)]
      rw [h2]
    · have h1' : (imgT p qs == Str.ofString ".") = false := by simpa using h1
      have hs1 : ¬ ((p == Str.ofString "") = true ∨ (bare = true ∧ (p == Str.ofString ".") = true)) := by
        rintro (h | h)
        · exact hpe h
        · rw [P.dot, Bool.and_eq_true] at h1; exact h1 h
      by_cases h2 : (imgT p qs == Str.ofString "..") = true
      · have h2' : (imgT p qs != Str.ofString "..") = false := by rw [bne, h2]; rfl
        have hst : plStep bare qs (plR bare qs ps) p = ((plR bare qs ps).1 + 1, (plR bare qs ps).2) := by
          have h3 := h2
          rw [P.up, Bool.and_eq_true] at h3
          unfold plStep; rw [if_neg hs1, if_pos h3]
        rw [hst]
        generalize hd : plR bare qs ps = dk at ih
        obtain ⟨d, K⟩ := dk
        have hge : imgT p qs = Str.ofString ".." := eq_of_beq h2
        rcases List.eq_nil_or_concat N with rfl | ⟨N', x, rfl⟩
        · rw [List.append_nil]
          by_cases hr : r.length = 0
          · have hstep : npStep r (List.replicate k (Str.ofString "..")) (imgT p qs) = List.replicate (k + 1) (Str.ofString "..") ++ [] := by
              rw [List.append_nil, List.replicate_succ', hge]
              rw [hge] at h1' h2'
              cases k with
              | zero => exact np_app2 (by decide) h1' h2' hr rfl
              | succ k =>
                refine np_app3 (by decide) h1' h2' (by simp) ?_
                rw [List.replicate_succ']; simp
            rw [hstep, ih (k + 1) [] (by simp) (fun h => absurd hr h)]
            simp only [List.length_nil, List.take_nil, List.append_nil, Nat.le_zero]
            by_cases hd0 : d = 0
            · subst hd0; rw [if_pos rfl, if_neg (by omega), if_pos hr]; rfl
            · rw [if_neg hd0, if_pos hr, if_neg (by omega), if_pos hr]
              congr 2; omega
          · have hk0 := hk hr
            subst hk0
            have hstep : npStep r (List.replicate 0 (Str.ofString "..")) (imgT p qs) = List.replicate 0 (Str.ofString "..") ++ [] := by
              rw [hge]; rw [hge] at h1' h2'
              exact np_nop (by decide) h1' h2' hr rfl
            rw [hstep, ih 0 [] (by simp) (fun _ => rfl)]
            simp only [List.length_nil, List.take_nil, List.append_nil, Nat.le_zero]
            by_cases hd0 : d = 0
            · subst hd0; rw [if_pos rfl, if_neg (by omega), if_neg hr]; rfl
            · rw [if_neg hd0, if_neg hr, if_neg (by omega), if_neg hr]
        · rw [List.concat_eq_append] at hN ⊢
          have hx := hN x (List.mem_append_right _ (.head _))
          have hstep : npStep r (List.replicate k (Str.ofString "..") ++ (N' ++ [x])) (imgT p qs) = List.replicate k (Str.ofString "..") ++ N' := by
            rw [hge]; rw [hge] at h1' h2'
            rw [← List.append_assoc]
            rw [np_pop (by decide) h1' h2' (by simp) (by simpa using hx)]
            simp
          rw [hstep, ih k N' (fun y hy => hN y (List.mem_append_left _ hy)) hk]
          simp only [List.length_append, List.length_singleton]
          by_cases hd1 : d ≤ N'.length
          · rw [if_pos hd1, if_pos (by omega)]
            congr 2
            rw [List.take_append_of_le_length (by omega)]
            congr 1; omega
          · have hd2 : ¬ (d + 1 ≤ N'.length + 1) := by omega
            rw [if_neg hd1, if_neg hd2]
            by_cases hr : r.length = 0
            · rw [if_pos hr, if_pos hr]; congr 2; omega
            · rw [if_neg hr, if_neg hr]
      · have h2' : (imgT p qs != Str.ofString "..") = true := by rw [bne]; simpa using h2
        have h2f : (imgT p qs == Str.ofString "..") = false := by simpa using h2
        have hs2 : ¬ (bare = true ∧ (p == Str.ofString "..") = true) := fun h => by
          rw [P.up, Bool.and_eq_true] at h2; exact h2 h
        rw [np_app P.gne h1' h2', List.append_assoc, ih k (N ++ [imgT p qs]) (fun y hy => by
          rcases List.mem_append.mp hy with hy | hy
          · exact hN y hy
          · rw [List.mem_singleton.mp hy]; exact h2f) hk]
        have hst : plStep bare qs (plR bare qs ps) p = if 0 < (plR bare qs ps).1 then ((plR bare qs ps).1 - 1, (plR bare qs ps).2) else ((plR bare qs ps).1, imgT p qs :: (plR bare qs ps).2) := by
          unfold plStep; rw [if_neg hs1, if_neg hs2]
        rw [hst]
        generalize plR bare qs ps = dk
        obtain ⟨d, K⟩ := dk
        simp only [List.length_append, List.length_singleton]
        by_cases hd0 : 0 < d
        · rw [if_pos hd0]
          by_cases hd1 : d ≤ N.length + 1
          · rw [if_pos hd1, if_pos (by show d - 1 ≤ _; omega)]
            congr 2
            rw [List.take_append_of_le_length (by omega)]
            congr 1
            show _ = N.length - (d - 1)
            omega
          · have hd2 : ¬ (d - 1 ≤ N.length) := by omega
            rw [if_neg hd1, if_neg hd2]
            by_cases hr : r.length = 0
            · rw [if_pos hr, if_pos hr]; congr 2; show _ = k + (d - 1) - _; omega
            · rw [if_neg hr, if_neg hr]
        · have : d = 0 := by omega
          subst this
          rw [if_neg hd0, if_pos (by omega), if_pos (by show 0 ≤ _; omega)]
          show _ ++ (N ++ [imgT p qs]).take (N.length + 1 - 0) ++ K = _ ++ N.take (N.length - 0) ++ (imgT p qs :: K)
          rw [List.take_of_length_le (by simp), Nat.sub_zero, List.take_length]; simp
end
section
open PySem.Builtin PySem.Builtin.Str
theorem path_is {xs : List Str} (h : xs ≠ []) : joinP (xs.headD default) (xs.drop (Int.toNat 1)) = joinA xs := by
  cases xs with
  | nil => exact absurd rfl h
  | cons x r => rfl
theorem map_cl_inj : ∀ {a b : List Str}, a.map cl = b.map cl → a = b
  | [], [], _ => rfl
  | [], _ :: _, h => by simp at h
  | _ :: _, [], h => by simp at h
  | x :: a, y :: b, h => by
    rw [List.map_cons, List.map_cons, List.cons.injEq] at h
    rw [cl_inj h.1, map_cl_inj h.2]
theorem joinLA_nil : ∀ (n : Nat) (xs : List (List Nat)), xs.length = n → (∀ x ∈ xs, x = []) → joinLA xs = []
  | n, xs, hl, h => by
    rcases List.eq_nil_or_concat xs with rfl | ⟨ns, b, rfl⟩
    · rfl
    rw [List.concat_eq_append] at hl h ⊢
    have hb : b = [] := h b (List.mem_append_right _ (.head _))
    by_cases hn : ns = []
    · subst hn; subst hb; rfl
    · rw [joinLA_snoc hn, joinLA_nil ns.length ns rfl (fun x hx => h x (List.mem_append_left _ hx)), hb]; rfl
  termination_by n => n
  decreasing_by rw [← hl]; simp
theorem joinLA_last {xs : List (List Nat)} (hx : xs ≠ []) (h : ∀ x ∈ xs.dropLast, x = []) : joinLA xs = xs.getLastD [] := by
  rcases List.eq_nil_or_concat xs with rfl | ⟨ns, b, rfl⟩
  · exact absurd rfl hx
  rw [List.concat_eq_append] at h ⊢
  rw [List.dropLast_concat] at h
  by_cases hn : ns = []
  · subst hn; rfl
  · rw [joinLA_snoc hn, joinLA_nil ns.length ns rfl h]
    unfold jStepL
    rw [if_pos (.inr rfl)]; simp
theorem E_filter {y : List Nat} (xs : List (List Nat)) : (xs.map (E y)).filter ne0 = (xs.filter ne0).map (E y) := by
  rw [List.filter_map]
  congr 1
  apply List.filter_congr
  intro x _
  show ne0 (E y x) = ne0 x
  unfold ne0
  rw [Bool.eq_iff_iff]
  simp only [Bool.not_eq_true', List.isEmpty_eq_false_iff, ne_eq]
  rw [not_congr E_nil]
theorem E_keptL {y : List Nat} (xs : List (List Nat)) : keptL (xs.map (E y)) = (keptL xs).map (E y) := by
  unfold keptL
  rw [← List.map_dropLast, E_filter, List.map_append]
  congr 1
  rw [List.getLastD_eq_getLast?, List.getLastD_eq_getLast?, List.getLast?_map]
  cases xs.getLast? <;> rfl
theorem keptL_idem (xs : List (List Nat)) : keptL (keptL xs) = keptL xs := by
  show keptL (xs.dropLast.filter ne0 ++ [xs.getLastD []]) = _
  by_cases h : xs.dropLast.filter ne0 = []
  · rw [h]
    unfold keptL
    rw [h]; rfl
  · rw [keptL_snoc h, List.filter_filter]
    simp only [Bool.and_self]; rfl
def keptS (ps : List Str) : List Str := ps.dropLast.filter (fun p => p != Str.ofString "") ++ [ps.getLastD default]
theorem cl_default : cl (default : Str) = [] := by decide
theorem cl_getLastD (ps : List Str) : cl (ps.getLastD default) = (ps.map cl).getLastD [] := by
  rw [List.getLastD_eq_getLast?, List.getLastD_eq_getLast?, List.getLast?_map]
  cases ps.getLast? with
  | none => exact cl_default
  | some v => rfl
theorem cl_keptS (ps : List Str) : (keptS ps).map cl = keptL (ps.map cl) := by
  unfold keptS keptL
  rw [List.map_append, List.map_cons, List.map_nil, cl_getLastD, ← List.map_dropLast, List.filter_map]
  congr 2
  apply List.filter_congr
  intro p _
  show (p != Str.ofString "") = ne0 (cl p)
  rw [cl_bne, cl_emp]
  unfold ne0
  cases cl p <;> rfl
theorem cl_filter (ps : List Str) : (ps.filter g0).map cl = (ps.map cl).filter ne0 := by
  rw [List.filter_map]
  congr 1
  apply List.filter_congr
  intro p _
  show g0 p = ne0 (cl p)
  unfold g0 ne0
  rw [← cl_len]
  cases cl p <;> rfl
/-! climbing, read back -/
theorem climbN_is (qs : List Row4) (U : List Nat → List Nat) (hU : ∀ x, cl (unescT x qs) = U (cl x)) : ∀ (n : Nat) (a : Str) (r : List Str) (R : List (List Nat)), r.map cl = R.map U →
    cl (climbN qs n a r).1 = (climbL n (cl a) R).1 ∧ (climbN qs n a r).2.map cl = (climbL n (cl a) R).2.map U
  | 0, a, r, R, h => ⟨rfl, h⟩
  | n + 1, a, r, R, h => by
    have h2 : (unescT (spTail a) qs :: r).map cl = (lTail (cl a) :: R).map U := by
      rw [List.map_cons, List.map_cons, h, hU, cl_spTail]
    unfold climbN climbL
    rw [bne_mul, cl_spHead]
    by_cases h1 : (lHead (cl a)).all sep = true
    · rw [if_neg (by rw [h1]; decide), if_pos h1]
      exact ⟨cl_spHead a, h2⟩
    · rw [if_pos (by simpa using h1), if_neg h1]
      have := climbN_is qs U hU n (spHead a) _ _ h2
      rw [cl_spHead] at this
      exact this
theorem climbT_is {Y : List Nat} {qs qb : List Row4} (hy : Y ∈ Ys) (T : Tb Y qs qb) (x : Str) {P : List (List Nat)} (hP : keptL (spl ((cl x).dropWhile sep)) = P.map (E Y)) :
    cl (climbT x qb).1 = (cl x).takeWhile sep ∧ (climbT x qb).2.map cl = P := by
  unfold climbT
  have h := climbN_is qb (fun l => cl (unescT ⟨l.toArray⟩ qb)) (fun x => by
    show _ = cl (unescT ⟨(cl x).toArray⟩ qb)
    congr 2) (x.length + 1) x [] [] rfl
  rw [climb_is _ _ _ (by rw [cl_len]; omega), List.append_nil, hP] at h
  refine ⟨h.1, h.2.trans ?_⟩
  rw [List.map_map]
  conv => rhs; rw [← List.map_id P]
  apply List.map_congr_left
  intro l _
  exact cl_unesc hy T (x := ⟨(E Y l).toArray⟩) (by simp)
/-! normpath told from the names -/
theorem norm_plain {p f : Str} {ps : List Str} {bare : Bool} {qs : List Row4} (h1 : plRoot f = srRoot p) (h2 : (Txt.split (srRest p) (Str.ofString "/")).filter g0 = (ps.filter g0).map (fun x => imgT x qs))
    (h3 : ∀ q ∈ ps.filter g0, Pc bare qs q) : normP p = plainP f ps bare qs := by
  have hb : npBody p = plBody f (plFold bare qs ps.reverse) := by
    unfold npBody plBody npFold
    rw [h1, npFold_filter, h2]
    have := folds (r := srRoot p) (ps.filter g0) h3 0 [] (by simp) (fun _ => rfl)
    rw [← plR_filter, ← plFold_rev] at this
    rw [List.replicate_zero, List.nil_append] at this
    rw [this]
    unfold plKept
    rw [h1]
    generalize plFold bare qs ps.reverse = dk
    obtain ⟨d, K⟩ := dk
    congr 2
    simp only [List.length_nil, List.take_nil, List.append_nil, List.nil_append, Nat.le_zero, Nat.zero_add, Nat.sub_zero]
    by_cases hd : d = 0
    · subst hd
      rw [if_pos rfl]
      split <;> rfl
    · rw [if_neg hd]
  unfold normP plainP
  rw [← hb]
  by_cases hp : p.length = 0
  · rw [if_pos hp]
    have : p = Str.ofString "" := cl_inj (by rw [cl_emp]; exact (len0_iff p).mp hp)
    subst this
    rw [if_pos (by decide +kernel)]
  · rw [if_neg hp]
theorem im_dot {Y : List Nat} (h : 46 ∉ Y) : imS (sg Y) 46 = [46] := by
  unfold imS sg
  rw [if_neg (by simpa using h)]
theorem ent_dot : ∀ c ∈ six, 46 ∉ ent c := by decide
theorem E_nodot {Y : List Nat} (hy : Y ∈ Ys) (h : 46 ∈ Y) (l : List Nat) : 46 ∉ E Y l := by
  intro hm
  obtain ⟨c, hc, h2⟩ := List.mem_flatMap.mp hm
  unfold imS at h2
  by_cases h1 : c ∈ sg Y
  · rw [if_pos h1] at h2; exact ent_dot c (sg_six hy c h1) h2
  · rw [if_neg h1] at h2
    have : c = 46 := (List.mem_singleton.mp h2).symm
    exact h1 (by rw [this]; exact .tail _ (.tail _ (.tail _ h)))
theorem pc_of {Y : List Nat} {qs qb : List Row4} (hy : Y ∈ Ys) (T : Tb Y qs qb) {p : Str} (hp : p.length ≠ 0) : Pc (!decide (46 ∈ Y)) qs p := by
  have hd : cl (Str.ofString ".") = [46] := by decide
  have hu : cl (Str.ofString "..") = [46, 46] := by decide
  have key : ∀ L : List Nat, 46 ∈ L → (∀ c ∈ L, c = 46) → (E Y (cl p) == L) = ((!decide (46 ∈ Y)) && cl p == L) := by
    intro L hL hall
    by_cases h : 46 ∈ Y
    · rw [decide_eq_true h]
      show _ = (false && _)
      rw [Bool.false_and, beq_eq_false_iff_ne]
      intro e
      exact E_nodot hy h (cl p) (e ▸ hL)
    · rw [decide_eq_false h]
      show _ = (true && _)
      rw [Bool.true_and]
      have hE : E Y L = L := by
        clear hL
        induction L with
        | nil => rfl
        | cons a r ih =>
          have ha := hall a (.head _)
          subst ha
          show imS (sg Y) 46 ++ E Y r = _
          rw [im_dot h, ih (fun c hc => hall c (.tail _ hc))]; rfl
      rw [Bool.eq_iff_iff, beq_iff_eq, beq_iff_eq]
      constructor
      · intro e
        exact E_inj hy T (e.trans hE.symm)
      · intro e
        rw [e]; exact hE
  refine ⟨hp, ?_, ?_, ?_⟩
  · intro e
    have := (len0_iff _).mp e
    rw [cl_img T] at this
    exact hp ((len0_iff p).mpr (E_nil.mp this))
  · rw [cl_beq, cl_beq, cl_img T, hd]
    exact key [46] (by simp) (by simp)
  · rw [cl_beq, cl_beq, cl_img T, hu]
    exact key [46, 46] (by simp) (by simp)
theorem pc_all {Y : List Nat} {qs qb : List Row4} (hy : Y ∈ Ys) (T : Tb Y qs qb) (ps : List Str) : ∀ q ∈ ps.filter g0, Pc (!decide (46 ∈ Y)) qs q := fun q hq => by
  refine pc_of hy T fun e => ?_
  have := (List.mem_filter.mp hq).2
  simp [g0, e] at this
theorem head_tw {l : List Nat} (h : ¬ l.head? = some 47) : l.takeWhile sep = [] ∧ l.dropWhile sep = l := by
  cases l with
  | nil => exact ⟨rfl, rfl⟩
  | cons c r =>
    have : sep c = false := by
      have : c ≠ 47 := fun e => h (by rw [e]; rfl)
      simpa [sep] using this
    rw [List.takeWhile_cons, List.dropWhile_cons, this]
    exact ⟨rfl, rfl⟩
section
variable {Y : List Nat} {qs qb : List Row4} {NS : List Str}
theorem cl_row (hy : Y ∈ Ys) (T : Tb Y qs qb) (NS : List Str) : (NS.map (fun x => escT x qs)).map cl = (NS.map cl).map (E Y) := by
  rw [List.map_map, List.map_map]
  exact List.map_congr_left fun x _ => cl_esc hy T x
theorem m_told (hy : Y ∈ Ys) (T : Tb Y qs qb) (hn : NS ≠ []) : unescT (escT (joinP (NS.headD default) (NS.drop (Int.toNat 1))) qs) qb = toldP NS := by
  rw [path_is hn, told_join hn]
  exact cl_inj (cl_unesc hy T (cl_esc hy T _))
theorem row_ne (hn : NS ≠ []) : NS.map (fun x => escT x qs) ≠ [] := by simpa using hn
theorem m_image (hy : Y ∈ Ys) (T : Tb Y qs qb) (hn : NS ≠ []) : joinP ((NS.map (fun x => escT x qs)).headD default) ((NS.map (fun x => escT x qs)).drop (Int.toNat 1)) = toldP (NS.map (fun x => imgT x qs)) := by
  have e : NS.map (fun x => imgT x qs) = NS.map (fun x => escT x qs) := List.map_congr_left fun x _ => img_esc hy T x
  rw [path_is (row_ne hn), e, told_join (row_ne hn)]
theorem cl_path (hy : Y ∈ Ys) (T : Tb Y qs qb) (hn : NS ≠ []) : cl (joinP ((NS.map (fun x => escT x qs)).headD default) ((NS.map (fun x => escT x qs)).drop (Int.toNat 1))) = joinLA ((NS.map cl).map (E Y)) := by
  rw [path_is (row_ne hn), cl_joinA, cl_row hy T]
theorem cl_once (hy : Y ∈ Ys) (T : Tb Y qs qb) (hn : NS ≠ []) : cl (escT (joinP (NS.headD default) (NS.drop (Int.toNat 1))) qs) = E Y (joinLA (NS.map cl)) := by
  rw [path_is hn, cl_esc hy T, cl_joinA]
theorem free_row (hy : Y ∈ Ys) (h47 : 47 ∈ Y) (xs : List (List Nat)) : ∀ x ∈ xs.map (E Y), 47 ∉ x := fun x hx => by
  obtain ⟨l, _, rfl⟩ := List.mem_map.mp hx
  exact E_free hy (.inr h47)
theorem cl_pathA (hy : Y ∈ Ys) (T : Tb Y qs qb) (hn : NS ≠ []) (h47 : 47 ∈ Y) : cl (joinP ((NS.map (fun x => escT x qs)).headD default) ((NS.map (fun x => escT x qs)).drop (Int.toNat 1))) = inter (keptL ((NS.map cl).map (E Y))) := by
  rw [cl_path hy T hn]
  have hl : ((NS.map cl).map (E Y)).length ≠ 0 := by
    rw [List.length_map, List.length_map]
    exact fun e => hn (List.length_eq_zero_iff.mp e)
  exact join_free (((NS.map cl).map (E Y)).length - 1) _ (by omega) (free_row hy h47 _)
/-- the two are the same path just where no name but the last has a sign -/
theorem m_sameA (hy : Y ∈ Ys) (T : Tb Y qs qb) (hn : NS ≠ []) (h47 : 47 ∈ Y) : (joinP ((NS.map (fun x => escT x qs)).headD default) ((NS.map (fun x => escT x qs)).drop (Int.toNat 1)) == escT (joinP (NS.headD default) (NS.drop (Int.toNat 1))) qs) = (Txt.join (Str.ofString "") NS.dropLast == Str.ofString "") := by
  have hj : (Txt.join (Str.ofString "") NS.dropLast == Str.ofString "") = true ↔ ∀ x ∈ (NS.map cl).dropLast, x = [] := by
    rw [cl_beq, beq_iff_eq, cl_emp, cl_join0, List.flatten_eq_nil_iff, List.map_dropLast]
  rw [cl_beq, cl_pathA hy T hn h47, cl_once hy T hn, Bool.eq_iff_iff, hj, beq_iff_eq]
  have hN : NS.map cl ≠ [] := by simpa using hn
  constructor
  · intro e x hx
    refine Classical.byContradiction fun hne => ?_
    have hf : (NS.map cl).dropLast.filter ne0 ≠ [] := by
      intro e0
      have : x ∈ (NS.map cl).dropLast.filter ne0 := List.mem_filter.mpr ⟨hx, by unfold ne0; simpa using hne⟩
      rw [e0] at this; cases this
    have h1 : 47 ∈ inter (keptL ((NS.map cl).map (E Y))) := by
      rw [E_keptL]
      unfold keptL
      rw [List.map_append, List.map_cons, List.map_nil, inter_snoc _ (by simpa using hf)]
      simp
    rw [e] at h1
    exact E_free hy (.inr h47) h1
  · intro h
    rw [joinLA_last hN h, E_keptL]
    have : (NS.map cl).dropLast.filter ne0 = [] := by
      rw [List.filter_eq_nil_iff]
      intro x hx; rw [h x hx]; decide
    unfold keptL
    rw [this]; rfl
theorem path_head (hy : Y ∈ Ys) (h47 : 47 ∈ Y) (xs : List (List Nat)) : ¬ (inter (keptL (xs.map (E Y)))).head? = some 47 := by
  intro h
  have hf : ∀ x ∈ keptL (xs.map (E Y)), 47 ∉ x := by
    rw [E_keptL]; exact free_row hy h47 _
  unfold keptL at h hf
  cases hF : (xs.map (E Y)).dropLast.filter ne0 with
  | nil =>
    rw [hF] at h hf
    exact hf _ (.head _) (List.mem_of_head? h)
  | cons a r =>
    have hane : a ≠ [] := by
      have : a ∈ (xs.map (E Y)).dropLast.filter ne0 := by rw [hF]; exact .head _
      have := (List.mem_filter.mp this).2
      unfold ne0 at this; simpa using this
    rw [hF] at h hf
    rw [List.cons_append, inter_cons (by simp)] at h
    cases a with
    | nil => exact hane rfl
    | cons c a =>
      have hc : c = 47 := by simpa using h
      exact hf _ (.head _) (by rw [hc]; exact .head _)
theorem keptL_ne (xs : List (List Nat)) : keptL xs ≠ [] := by unfold keptL; simp
theorem m_climbA (hy : Y ∈ Ys) (T : Tb Y qs qb) (hn : NS ≠ []) (h47 : 47 ∈ Y) : climbT (joinP ((NS.map (fun x => escT x qs)).headD default) ((NS.map (fun x => escT x qs)).drop (Int.toNat 1))) qb = (Str.ofString "", keptS NS) := by
  have e := cl_pathA hy T hn h47
  have hh := head_tw (path_head hy h47 (NS.map cl))
  have hs : spl (inter (keptL ((NS.map cl).map (E Y)))) = keptL ((NS.map cl).map (E Y)) := spl_inter (keptL_ne _) (by rw [E_keptL]; exact free_row hy h47 _)
  obtain ⟨h1, h2⟩ := climbT_is hy T (joinP ((NS.map (fun x => escT x qs)).headD default) ((NS.map (fun x => escT x qs)).drop (Int.toNat 1))) (P := keptL (NS.map cl)) (by rw [e, hh.2, hs, keptL_idem, E_keptL])
  rw [e, hh.1] at h1
  refine Prod.ext (cl_inj (h1.trans cl_emp.symm)) (map_cl_inj ?_)
  rw [h2, cl_keptS]
theorem filter_keptL (xs : List (List Nat)) (h : xs ≠ []) : (keptL xs).filter ne0 = xs.filter ne0 := by
  unfold keptL
  rw [List.filter_append, List.filter_filter, filter_last h]
  simp only [Bool.and_self]
  congr 1
  by_cases h1 : xs.getLastD [] = []
  · rw [if_pos h1, h1]; rfl
  · rw [if_neg h1, List.filter_cons, if_pos (by unfold ne0; simpa using h1)]; rfl
theorem m_normA (hy : Y ∈ Ys) (T : Tb Y qs qb) (hn : NS ≠ []) (h47 : 47 ∈ Y) : normP (joinP ((NS.map (fun x => escT x qs)).headD default) ((NS.map (fun x => escT x qs)).drop (Int.toNat 1))) = plainP (Str.ofString "") NS (!decide (46 ∈ Y)) qs := by
  have e := cl_pathA hy T hn h47
  have hh := head_tw (path_head hy h47 (NS.map cl))
  obtain ⟨r1, n, r2⟩ := srRoot_is (joinP ((NS.map (fun x => escT x qs)).headD default) ((NS.map (fun x => escT x qs)).drop (Int.toNat 1)))
  rw [e, hh.1] at r1
  rw [e, hh.2] at r2
  have hN : NS.map cl ≠ [] := by simpa using hn
  refine norm_plain (cl_inj ?_) (map_cl_inj ?_) (pc_all hy T NS)
  · rw [r1]; decide
  · rw [cl_filter, cl_split, r2, spl_rep, spl_inter (keptL_ne _) (by rw [E_keptL]; exact free_row hy h47 _), List.filter_append]
    have : (List.replicate n ([] : List Nat)).filter ne0 = [] := by
      rw [List.filter_eq_nil_iff]; intro x hx; rw [List.eq_of_mem_replicate hx]; decide
    rw [this, List.nil_append, filter_keptL _ (by simpa using hn), E_filter, ← cl_filter, List.map_map, List.map_map]
    exact (List.map_congr_left fun x _ => (cl_img T x)).symm
/-! the slash is bare -/
theorem m_sameB (hy : Y ∈ Ys) (T : Tb Y qs qb) (hn : NS ≠ []) (h47 : 47 ∉ Y) : joinP ((NS.map (fun x => escT x qs)).headD default) ((NS.map (fun x => escT x qs)).drop (Int.toNat 1)) = escT (joinP (NS.headD default) (NS.drop (Int.toNat 1))) qs := by
  refine cl_inj ?_
  rw [cl_path hy T hn, cl_once hy T hn]
  cases hN : NS.map cl with
  | nil => exact absurd hN (by simpa using hn)
  | cons x r => exact E_joinL hy h47 r x
theorem E_tw (hy : Y ∈ Ys) (h47 : 47 ∉ Y) : ∀ l : List Nat, (E Y l).takeWhile sep = l.takeWhile sep ∧ (E Y l).dropWhile sep = E Y (l.dropWhile sep)
  | [] => ⟨rfl, rfl⟩
  | c :: r => by
    by_cases hc : c = 47
    · subst hc
      obtain ⟨i1, i2⟩ := E_tw hy h47 r
      have e : E Y (47 :: r) = 47 :: E Y r := by
        show imS (sg Y) 47 ++ E Y r = _
        rw [im_bare h47]; rfl
      rw [e]
      have s47 : sep 47 = true := rfl
      rw [List.takeWhile_cons, List.dropWhile_cons, List.takeWhile_cons, List.dropWhile_cons, if_pos s47, if_pos s47, if_pos s47, if_pos s47, i1, i2]
      exact ⟨rfl, rfl⟩
    · have hn : ¬ (c :: r).head? = some 47 := by simpa using hc
      have hE : ¬ (E Y (c :: r)).head? = some 47 := fun h => hn ((E_head hy h47).mp h)
      rw [(head_tw hn).1, (head_tw hn).2, (head_tw hE).1, (head_tw hE).2]
      exact ⟨rfl, rfl⟩
theorem spl_app_free : ∀ {a : List Nat}, 47 ∉ a → ∀ r, spl (a ++ r) = (a ++ (spl r).headD []) :: (spl r).tail
  | [], _, r => spl_cons_ne
  | c :: a, h, r => by
    have hc : c ≠ 47 := fun e => h (e ▸ .head _)
    rw [List.cons_append, spl_c hc, spl_app_free (fun hm => h (.tail _ hm)) r]; rfl
theorem spl_E (hy : Y ∈ Ys) (h47 : 47 ∉ Y) : ∀ l : List Nat, spl (E Y l) = (spl l).map (E Y)
  | [] => rfl
  | c :: r => by
    have ih := spl_E hy h47 r
    by_cases hc : c = 47
    · subst hc
      have e : E Y (47 :: r) = 47 :: E Y r := by
        show imS (sg Y) 47 ++ E Y r = _
        rw [im_bare h47]; rfl
      rw [e, spl_sl, spl_sl, ih]; rfl
    · show spl (imS (sg Y) c ++ E Y r) = _
      rw [spl_app_free (im_free hy (.inl hc)), ih, spl_c hc, spl_cons_ne (l := r)]
      rfl
theorem cl_lstrip (x : Str) : cl (Txt.lstripChars x (Str.ofString "/")) = (cl x).dropWhile sep := by
  unfold Txt.lstripChars
  rw [PyProof.Rows.stripBy_eq]
  have ep : ((Str.ofString "/").cps.contains : Nat → Bool) = sep := by
    funext c
    rw [sl_eq]
    simp [sep]
    rw [Bool.eq_iff_iff]; simp
  rw [ep]
  have e1 : stripLo sep true x = ((cl x).takeWhile sep).length := rfl
  have e2 : ∀ k, stripHi sep false x k = x.length := fun k => rfl
  rw [e1, e2, cl_sub, List.take_of_length_le (by rw [List.length_drop, cl_len]; omega)]
  conv => lhs; arg 2; rw [dropWhile_rep sep (cl x)]
  rw [List.drop_left']
  rfl
/-- the front: the slashes ahead -/
def frontP (x : Str) : Str := Txt.slice x none (some ((x.length : Int) - ((Txt.lstripChars x (Str.ofString "/")).length : Int)))
def piecesP (x : Str) : List Str := Txt.split (Txt.slice x (some ((frontP x).length : Int)) none) (Str.ofString "/")
theorem cl_front (x : Str) : cl (frontP x) = (cl x).takeWhile sep := by
  have h := len_takeWhile_add sep (cl x)
  have h2 := cl_lstrip x
  have h3 : (Txt.lstripChars x (Str.ofString "/")).length = ((cl x).dropWhile sep).length := by rw [← cl_len, h2]
  have hl := cl_len x
  unfold frontP
  have e : ((x.length : Int) - ((Txt.lstripChars x (Str.ofString "/")).length : Int)) = ((((cl x).takeWhile sep).length : Nat) : Int) := by omega
  rw [e, cl_slice_to (by omega)]
  conv => lhs; rw [dropWhile_rep sep (cl x)]
  rw [List.take_left']
  rw [← dropWhile_rep]
theorem cl_pieces (x : Str) : (piecesP x).map cl = spl ((cl x).dropWhile sep) := by
  have h := len_takeWhile_add sep (cl x)
  have hl := cl_len x
  have hf := cl_len (frontP x)
  rw [cl_front] at hf
  unfold piecesP
  rw [cl_split, cl_slice_from (by omega), ← hf]
  congr 1
  conv => lhs; rw [dropWhile_rep sep (cl x)]
  rw [List.drop_left']
  rw [← dropWhile_rep]
theorem m_climbB (hy : Y ∈ Ys) (T : Tb Y qs qb) (hn : NS ≠ []) (h47 : 47 ∉ Y) : climbT (joinP ((NS.map (fun x => escT x qs)).headD default) ((NS.map (fun x => escT x qs)).drop (Int.toNat 1))) qb = (frontP (toldP NS), keptS (piecesP (toldP NS))) := by
  have e : cl (joinP ((NS.map (fun x => escT x qs)).headD default) ((NS.map (fun x => escT x qs)).drop (Int.toNat 1))) = E Y (cl (toldP NS)) := by
    rw [m_sameB hy T hn h47, path_is hn, told_join hn, cl_esc hy T]
  obtain ⟨t1, t2⟩ := E_tw hy h47 (cl (toldP NS))
  obtain ⟨h1, h2⟩ := climbT_is hy T (joinP ((NS.map (fun x => escT x qs)).headD default) ((NS.map (fun x => escT x qs)).drop (Int.toNat 1))) (P := keptL (spl ((cl (toldP NS)).dropWhile sep))) (by rw [e, t2, spl_E hy h47, E_keptL])
  rw [e, t1] at h1
  refine Prod.ext (cl_inj (h1.trans (cl_front _).symm)) (map_cl_inj ?_)
  rw [h2, cl_keptS, cl_pieces]
theorem m_normB (hy : Y ∈ Ys) (T : Tb Y qs qb) (hn : NS ≠ []) (h47 : 47 ∉ Y) : normP (joinP ((NS.map (fun x => escT x qs)).headD default) ((NS.map (fun x => escT x qs)).drop (Int.toNat 1))) = plainP (frontP (toldP NS)) (piecesP (toldP NS)) (!decide (46 ∈ Y)) qs := by
  have e : cl (joinP ((NS.map (fun x => escT x qs)).headD default) ((NS.map (fun x => escT x qs)).drop (Int.toNat 1))) = E Y (cl (toldP NS)) := by
    rw [m_sameB hy T hn h47, path_is hn, told_join hn, cl_esc hy T]
  obtain ⟨t1, t2⟩ := E_tw hy h47 (cl (toldP NS))
  obtain ⟨r1, n, r2⟩ := srRoot_is (joinP ((NS.map (fun x => escT x qs)).headD default) ((NS.map (fun x => escT x qs)).drop (Int.toNat 1)))
  rw [e, t1] at r1
  rw [e, t2] at r2
  refine norm_plain (cl_inj ?_) (map_cl_inj ?_) (pc_all hy T _)
  · rw [r1]
    unfold plRoot
    rw [← cl_front, cl_len]
    split
    · rfl
    · exact cl_sl
  · rw [cl_filter, cl_split, r2, spl_rep, spl_E hy h47, List.filter_append]
    have : (List.replicate n ([] : List Nat)).filter ne0 = [] := by
      rw [List.filter_eq_nil_iff]; intro x hx; rw [List.eq_of_mem_replicate hx]; decide
    rw [this, List.nil_append, E_filter, ← cl_pieces, ← cl_filter, List.map_map, List.map_map]
    exact (List.map_congr_left fun x _ => (cl_img T x)).symm
end
end
section
variable {prog : Program} {w : World} {A : Around} {E : Value → Shared → Prop} {s : Shared} {h₀ : Heap} {L : Addr} {m : Str → Option Value} {news : Led}
theorem dict_empty_rows {env : Env} {pos : Pos} {Q : Value → Shared → Prop} (F : Fr h₀ L s.heap m) (N : News h₀ L s.heap news) (hbig : sysModules < h₀.objs.size)
    (k : ∀ D h', Fr h₀ L h' m → News h₀ L h' ((D, dObj w [] 0) :: news) → (D == sysModules) = false → (∀ p ∈ news, p.1 < D) → Q (.ref D) { s with heap := h' }) : wpAny (model prog w) A (eval (.Dict [] [] pos) env) Q E s := by
  refine wpAny_Dict_empty (k _ _ (F.push _) (News.push F N _) (F.notModules hbig) (fun p hp => Heap.lt_size (N p hp).1))
theorem row_set {d : Addr} {qs : List Row4} {ep : Nat} {k x : Str} {u t : Tok} {g : Obj → Led} {Q : Unit → Shared → Prop} (F : Fr h₀ L s.heap m) (N : News h₀ L s.heap news) (hn : Keys qs) (hk : k ∉ qs.map (·.1)) (hz : qs.length ≤ 1000)
    (U : UpdF d (dObj w qs ep) news g)
    (h : ∀ h', Fr h₀ L h' m → News h₀ L h' (g (dObj w (qs ++ [(k, u, x, t)]) (ep + 1))) → Q () { s with heap := h', toks := s.toks + 1 }) :
    wpAny (model prog w) A (setItem (.ref d) (.str k u) (.str x t)) Q E s := by
  obtain ⟨pre, post, rfl, hg, a, b⟩ := U.split
  have z := N (d, dObj w qs ep) (List.mem_append.mpr (.inr (.head _)))
  have hd := dictAt_rows (prog := prog) hn z.1
  unfold setItem
  try with_reducible refine wpAny_holding ?_
  refine wpAny_bind (wpAny_sequenceKey hd.dictOf.typeIs (by decide) ?_)
  refine wpAny_bind (wpAny_callSpecial?_slot (name := Str.ofString "__setitem__") hd.dictOf.typeIs slot_dict_setitem
    (wpAny_call_entry slot_dict_setitem hd.dictOf.typeIs entry_dict_setitem ?_ (args_dict_setitem _ _ _)))
  show wpAny _ _ (Builtin.Dict.notOrdered "__setitem__" ⟨[.ref d, .str k u, .str x t], []⟩ >>= _) _ _ s
  refine wpAny_bind (wpAny_notOrdered_dict hd.dictOf.typeIs ?_)
  show wpAny _ _ (dictSet d (.str k u) (.str x t) >>= _) _ _ s
  refine wpAny_bind ?_
  unfold dictSet
  try with_reducible refine wpAny_holding ?_
  refine wpAny_bind ((PySem.strKind prog w).pyHash (strKind_is prog w k u) ?_)
  unfold dictSetHashed
  try with_reducible refine wpAny_holding ?_
  refine wpAny_bind (wpAny_dictFind_of (s := { s with toks := s.toks + 1 }) (strKind_is prog w k u) z.1 rfl (keys_rows qs) ?_)
  have hidx : ((qs.map (rEnt w)).toArray.findIdx? fun e => (PySem.strKind prog w).is k e.key) = none := by
    rw [Array.findIdx?_eq_none_iff]
    intro e he
    have he' : e ∈ qs.map (rEnt w) := by rw [← List.mem_toArray]; exact he
    obtain ⟨q, hq, rfl⟩ := List.mem_map.mp he'
    rw [Bool.eq_false_iff]
    intro h1
    exact hk (List.mem_map.mpr ⟨q, hq, (PySem.strKind prog w).inj _ _ _ (strKind_is prog w q.1 q.2.1) h1⟩)
  rw [hidx]
  have hes : (qs.map (rEnt w)).toArray.size ≤ sizeLine := by simp [PySem.sizeLine_eq]; omega
  refine wpAny_bind (wpAny_rule (wpAny_updateDictKeys (hz := hes) (s := { s with toks := s.toks + 1 }) z.1 rfl ?_))
  refine wpAny_pure ⟨.none, rfl, wpAny_pure (h _ (F.change (Heap.SameBut.update ..) z.2.1 z.2.2) ?_)⟩
  rw [hg]
  refine news_set N a b (Heap.SameBut.update ..) ?_
  rw [Heap.get?_update_self _ z.1 rfl]
  simp [Obj.mapDictKeys]; rfl
end
section
variable {prog : Program} {w : World} {A : Around} {E : Value → Shared → Prop} {s : Shared} {h₀ : Heap} {env : Env} {x : Str} {body : List Stmt} {Q : Flow → Shared → Prop}
/-- the loop over a text that has been read -/
def TextAt (prog : Program) (w : World) (A : Around) (env : Env) (x : Str) (px : Pos) (body : List Stmt) (Q : Flow → Shared → Prop) (E : Value → Shared → Prop) (xv : Value) (s₁ : Shared) : Prop :=
  wpAny (model prog w) A (pyIter xv) (fun it s₂ => codeAny (model prog w) A (.forLoop (.Name x px) it body [] env) (fun r s' => match r with | .ok f => Q f s' | .error e => cameBackBy (model prog w) A env E e s') s₂) E s₁
theorem For_text {iter : PySem.Expr} {px pos : Pos}
    (h : wpAny (model prog w) A (eval iter env) (fun xv s₁ => TextAt prog w A env x px body Q E xv s₁) E s)
    (hs : ∀ x, foldedSetIterable iter env x = pure x) : wpAny (model prog w) A (exec (.For (.Name x px) iter body [] pos) env) Q E s := wpAny_For h hs
inductive TInv {σ : Type} (h₀ : Heap) (L : Addr) (x : Str) (m₀ : Str → Option Value) (led : σ → Led) (I : Nat → σ → Prop) (J : Addr) (y : Str) (t : Tok) (n0 : Nat) (s : Shared) (k : Nat) (s' : Shared) : Prop
  | mk (h' : Heap) (tk : Nat) (m' : Str → Option Value) (st : σ) (i : Nat) (e : s' = { s with heap := h', toks := tk }) (a : n0 ≤ tk) (b : h'.IsStrIter J "str_ascii_iterator" y t i) (F : Fr h₀ L h' m') (hm : ∀ z, z ≠ x → m' z = m₀ z) (N : News h₀ L h' (led st)) (hI : I i st) (hi : i ≤ y.cps.size) (ek : k = y.cps.size + 1 - i)
theorem TextAt.intro {σ : Type} (led : σ → Led) (I : Nat → σ → Prop) (st₀ : σ) (adr : List Addr) {y : Str} {t : Tok} {n0 : Nat} {news : Led} {m₀ : Str → Option Value} {px : Pos}
    (hh : A.handled = none) (hx : env.kindOf x = some .local) (hp : (env.scope.kind == .class || (env.scope.kind == .module && env.locals != env.globals)) = false)
    (ha : y.cps.all (· < 128) = true) (hE : PassesOwn (model prog w) A env E)
    (F : Fr h₀ env.locals s.heap m₀) (N : News h₀ env.locals s.heap news) (hadr : ∀ st, (led st).map (·.1) = adr) (hn : ∀ p ∈ led st₀, p ∈ news) (htk : n0 ≤ s.toks) (hI : I 0 st₀)
    (turn : ∀ i c u st h tk J oJ, y.cps[i]? = some c → n0 ≤ u → u < tk → I i st → (∀ a ∈ adr, J ≠ a) →
      Fr h₀ env.locals h (fun z => if z = x then some (.str ⟨#[c]⟩ u) else m₀ z) → News h₀ env.locals h (led st ++ [(J, oJ)]) →
      wpAny (model prog w) A (execs body env) (StPost h₀ env.locals x (fun _ => m₀) led (I (i + 1)) [(J, oJ)] { s with heap := h, toks := tk } Q) E { s with heap := h, toks := tk })
    (done : ∀ u st h tk, n0 ≤ tk → I y.cps.size st → Fr h₀ env.locals h (fun z => if z = x then u else m₀ z) → News h₀ env.locals h (led st) → Q .next { s with heap := h, toks := tk }) :
    TextAt prog w A env x px body Q E (.str y t) s := by
  unfold TextAt
  refine wpAny_pyIter_ascii ha ?_
  have hJL : env.locals ≠ s.heap.objs.size := Nat.ne_of_lt F.ns.lt
  have hJ0 : h₀.get? s.heap.objs.size = none := next_is_new F
  have hJa : ∀ a ∈ adr, s.heap.objs.size ≠ a := by
    intro a ha e
    rw [← hadr st₀] at ha
    obtain ⟨p, hp, e'⟩ := List.mem_map.mp ha
    exact absurd (Heap.lt_size (N p (hn p hp)).1) (by rw [e', ← e]; exact Nat.lt_irrefl _)
  have hJl : ∀ st, ∀ p ∈ led st, p.1 ≠ s.heap.objs.size := fun st p hp e => hJa p.1 (by rw [← hadr st]; exact List.mem_map.mpr ⟨p, hp, rfl⟩) e.symm
  have hit0 : (s.heap.push { cls := .type "str_ascii_iterator", data := .fields #[.str y t, .int 0 0] }).IsStrIter s.heap.objs.size "str_ascii_iterator" y t 0 := ⟨_, Heap.get?_push_size _ rfl, rfl, rfl⟩
  have F0 : Fr h₀ env.locals (s.heap.push { cls := .type "str_ascii_iterator", data := .fields #[.str y t, .int 0 0] }) m₀ := F.push _
  have N0 : News h₀ env.locals (s.heap.push { cls := .type "str_ascii_iterator", data := .fields #[.str y t, .int 0 0] }) (led st₀) := fun p hp => ⟨Heap.get?_push_of_some _ (N p (hn p hp)).1, (N p (hn p hp)).2⟩
  generalize s.heap.push { cls := .type "str_ascii_iterator", data := .fields #[.str y t, .int 0 0] } = hp0 at hit0 F0 N0
  generalize s.heap.objs.size = J at hJL hJ0 hJa hJl hit0
  refine codeAny_forLoop
    (TInv h₀ env.locals x m₀ led I J y t n0 s) ?_ (y.cps.size + 1)
    ⟨hp0, s.toks, m₀, st₀, 0, rfl, htk, hit0, F0, fun _ _ => rfl, N0, hI, Nat.zero_le _, rfl⟩
  rintro k s' ⟨h', tk, m', st, i, rfl, htk', hit, F', hm', N', hI', hi, rfl⟩
  have keep : ∀ h₁ : Heap, Heap.ExtBut J h' h₁ → Fr h₀ env.locals h₁ m' ∧ News h₀ env.locals h₁ (led st) := fun h₁ hk₁ =>
    ⟨⟨F'.ns.at' fun o e => hk₁ _ o hJL e, fun b o e => hk₁ b o (fun eb => by rw [eb, hJ0] at e; cases e) (F'.keep b o e), F'.above⟩, fun p hp => ⟨hk₁ _ _ (hJl st p hp) (N' p hp).1, (N' p hp).2⟩⟩
  by_cases hlt : i < y.cps.size
  · refine wpAny_pyNext_ascii_item hit (c := y.cps[i]) (by simp [hlt]) fun h₁ hit₁ hs₁ => ?_
    obtain ⟨F₁, N₁⟩ := keep h₁ hs₁.extBut
    refine wpAny_assign_Name (wpAny_storeName_local hx F₁.ns (fun h₂ hn₂ hs₂ => ?_) hp)
    have F₂ := F₁.set hn₂ hs₂
    obtain ⟨oJ, hoJ, rJ⟩ := id hit₁
    have hoJ₂ : h₂.get? J = some oJ := (hs₂.2 J (Ne.symm hJL)).trans hoJ
    have F₃ : Fr h₀ env.locals h₂ (fun z => if z = x then some (.str ⟨#[y.cps[i]]⟩ tk) else m₀ z) := fr_congr F₂ fun z => by
      by_cases h1 : z = x
      · simp only [if_pos h1]
      · simp only [if_neg h1]; exact hm' z h1
    have N₂ : News h₀ env.locals h₂ (led st ++ [(J, oJ)]) := fun p hp => by
      rcases List.mem_append.mp hp with hp | hp
      · exact (N₁.set hs₂) p hp
      · rw [List.mem_singleton.mp hp]
        exact ⟨hoJ₂, Ne.symm hJL, hJ0⟩
    refine wpAny_mono (wpAny_toks_of (n := n0) (s := { s with heap := h₂, toks := tk + 1 + 1 }) (Nat.le_succ_of_le (Nat.le_succ_of_le htk')) (wpAny_passesOwn hE (turn i y.cps[i] tk st h₂ (tk + 1 + 1) J oJ (by simp [hlt]) htk' (Nat.lt_succ_of_lt (Nat.lt_succ_self _)) hI' hJa F₃ N₂))) (fun f s₃ h₃' => ?_) fun _ _ e9 => And.right e9
    obtain ⟨tk₃, h₃⟩ := h₃'
    have fin : StEnd h₀ env.locals x (fun _ => m₀) led (I (i + 1)) [(J, oJ)] { s with heap := h₂, toks := tk + 1 + 1 } s₃ → ∃ m, m < y.cps.size + 1 - i ∧ TInv h₀ env.locals x m₀ led I J y t n0 s m s₃ := by
      rintro ⟨h₄, tk₄, m₄, news₄, st₄, rfl, F₄, N₄, hn₄, ho₄, hm₄, hI₄⟩
      refine ⟨y.cps.size + 1 - (i + 1), by omega, h₄, tk₄, m₄, st₄, i + 1, rfl, tk₃, ⟨oJ, (N₄ _ (ho₄ _ (.head _))).1, rJ⟩, F₄, hm₄, fun p hp => N₄ p (hn₄ p hp), hI₄, hlt, rfl⟩
    cases f with
    | ret v => exact h₃
    | brk => exact h₃
    | next => exact fin h₃
    | cont => exact fin h₃
  · have hin : i = y.cps.size := by omega
    subst hin
    refine wpAny_pyNext_ascii_end hh hit (by simp) fun h₁ hk₁ => wpAny_execs_nil ?_
    obtain ⟨F₁, N₁⟩ := keep h₁ hk₁
    refine done (m' x) st h₁ tk htk' hI' (fr_congr F₁ fun z => ?_) N₁
    by_cases h1 : z = x
    · rw [if_pos h1, h1]
    · rw [if_neg h1]; exact hm' z h1
end
def ownP (tot : Int) : List Int := if Int.fmod tot 3 = 0 then [2, 0, 3, 1, 4, 0, 2, 2] else []
section
variable {prog : Program} {w : World} {A : Around} {E : Value → Shared → Prop} {s : Shared} {h₀ : Heap} {L : Addr} {m : Str → Option Value} {news : Led}
theorem int_add {l l2 : Addr} {vs vs2 : List Value} {ns ms : List Int} {n n2 : Nat} {Q : Value → Shared → Prop} (F : Fr h₀ L s.heap m) (N : News h₀ L s.heap news) (hm : (l, W.listOf vs.toArray n) ∈ news) (hx : IntsAre vs ns) (hm2 : (l2, W.listOf vs2.toArray n2) ∈ news) (hx2 : IntsAre vs2 ms) (hsz : ns.length + ms.length ≤ 100000)
    (h : ∀ D h', Fr h₀ L h' m → News h₀ L h' ((D, W.listOf (vs ++ vs2).toArray 0) :: news) → (∀ p ∈ news, p.1 < D) → IntsAre (vs ++ vs2) (ns ++ ms) → Q (.ref D) { s with heap := h' }) :
    wpAny (model prog w) A (binaryOp .Add (.ref l) (.ref l2)) Q E s :=
  add_lists (hsz := by rw [hx.length, hx2.length, sizeLine_eq]; omega) F N (News.isList N hm) (News.isList N hm2) fun h' F' N' => h _ h' F' N' (fun p hp => Heap.lt_size (N p hp).1) (hx.append hx2)
end
/-- hands back a made list of texts -/
abbrev RList (xs : List Str) (r : Value) (tl : Led) : Prop := ∃ a vs c, r = .ref a ∧ tl = [(a, W.listOf vs.toArray c)] ∧ StrsAre vs xs
theorem Tells.useN {w : World} {mean : ExcName → Option Value} {mg mb : Str → Option Value} {tk0 dd uu : Nat} {f : Addr} {news : Led} {vs : List Value} {xs : List Str}
    {dp un : Nat} {gd : Option (List Code)} {cn : Str} {cs : Scope} {a : Addr} {ccd : Value} {cl : List (Str × Addr)} {outer : List Env} {A₀ : Around} {base h₀ : Heap} {L : Addr} {m : Str → Option Value} {s : Shared} {Q E : Value → Shared → Prop}
    (B : Below A₀ base outer h₀) (F : Fr h₀ L s.heap m) (X : (pre.heap_1 w.params).In h₀) (N : News h₀ L s.heap news)
    (T : Top VV (looseW VV [Str.ofString "escape", Str.ofString "unescape"]) mean mg mb h₀) (hk : cs.kind = .function)
    (C : Tells w mean mg mb tk0 dd uu f news vs (RList xs))
    (hd : dp + dd < recursionLimit) (hu : un + uu < cLine) (htk : tk0 ≤ s.toks)
    (ret : ∀ D h' tk' ws c, Fr h₀ L h' m → News h₀ L h' ((D, W.listOf ws.toArray c) :: news) → tk0 ≤ tk' → StrsAre ws xs → Q (.ref D) { s with heap := h', toks := tk' }) :
    wpAny (model PySem.Challenge.rw_ij0051_01.row.prog w) (ktrTop dp un gd cn cs L a ccd cl outer) (call (.ref f) vs) Q E s :=
  C.use B F X N T hk hd hu htk fun r tl h' tk' F' N' ht ⟨D, ws, c, e1, e2, e3⟩ => by subst e1 e2; exact ret D h' tk' ws c F' N' ht e3
theorem drawn_ok (ns : List Int) : ∀ n ∈ (List.map (fun k' => Int.fmod k' 4096) ns), 0 ≤ n ∧ n < 4096 := by
  intro n hn
  obtain ⟨k, _, rfl⟩ := List.mem_map.mp hn
  show 0 ≤ Int.fmod k 4096 ∧ Int.fmod k 4096 < 4096
  rw [Int.fmod_eq_emod_of_nonneg _ (by decide)]; omega
theorem ownP_ok (t : Int) : (∀ n ∈ ownP t, 0 ≤ n ∧ n < 4096) ∧ (ownP t).length ≤ 8 := by
  unfold ownP; split
  · exact ⟨by decide, by decide⟩
  · exact ⟨by simp, by simp⟩
theorem news_ends {α : Type} (a : α) : ∀ (l : List α) (x y z u v : α), l = [a, x, y, z, u, v] → ∀ p ∈ [a, v], p ∈ l := by
  rintro l x y z u v rfl p hp
  simp only [List.mem_cons, List.not_mem_nil, or_false] at hp ⊢
  rcases hp with h | h
  · exact .inl h
  · exact .inr (.inr (.inr (.inr (.inr h))))
theorem list_not_cell {h₀ h : Heap} {L D c : Addr} {vs : List Value} {n : Nat} {o : Obj} {v : Option Value} (N : News h₀ L h [(D, W.listOf vs.toArray n), (c, o)]) (ho : o.data = .cell v) : D ≠ c := by
  rintro rfl
  have h1 := (N _ (.head _)).1
  have h2 := (N _ (.tail _ (.head _))).1
  rw [h1] at h2
  cases Option.some.inj h2
  cases ho
theorem mem_but3 {α : Type} (a b c d e : α) : ∀ p ∈ [a, b, d, e], p ∈ [a, b, c, d, e] := by
  intro p hp
  simp only [List.mem_cons, List.not_mem_nil, or_false] at hp ⊢
  rcases hp with h | h | h | h <;> simp [h]
theorem map_take {α β : Type} {f : α → β} {l : List α} {i : Nat} {a : α} (h : l[i]? = some a) : (l.map f).take (i + 1) = (l.map f).take i ++ [f a] := by
  rw [List.take_add_one, List.getElem?_map, h]; rfl
theorem off1_4 {D : Addr} {a b c d : Addr × Obj} (h : LCg.Off1 D [a, b, c, d]) : a.1 ≠ D ∧ b.1 ≠ D ∧ c.1 ≠ D ∧ d.1 ≠ D ∧ True := h
theorem esc_row_len {y : List Nat} {qs qb : List Row4} (hy : y ∈ Ys) (T : Tb y qs qb) (hq : RowsOk qs) : ∀ xs : List Str, ((xs.map (fun x => escT x qs)).map (·.length)).sum ≤ 5 * (xs.map (·.length)).sum
  | [] => Nat.le_refl _
  | x :: r => by
    have h1 := imgT_len hq x
    rw [img_esc hy T] at h1
    have h2 := esc_row_len hy T hq r
    simp only [List.map_cons, List.sum_cons] at h2 ⊢
    omega
section
variable {prog : Program} {w : World} {A : Around} {E : Value → Shared → Prop} {s : Shared} {h₀ : Heap} {L : Addr} {m : Str → Option Value} {news : Led} {value slice : PySem.Expr} {l : Addr} {vs : List Value} {xs : List Str} {n : Nat} {u : Tok}
theorem txt_first {Q : Value → Shared → Prop} (N : News h₀ L s.heap news) (hm : (l, W.listOf vs.toArray n) ∈ news) (hx : StrsAre vs xs) (hne : xs ≠ [])
    (h : ∀ t, Q (.str (xs.headD default) t) s)
    (hs : subscripted slice false (.ref l) (.int 0 u) = operate [.ref l, .int 0 u] (getItem (.ref l) (.int 0 u)) := by with_unfolding_all rfl) (hg : ∀ r, letTemporaryGo value (.ref l) r = pure () := by intro _; with_unfolding_all rfl) :
    wpAny (model prog w) A (subscriptTail value slice (.ref l) (.int 0 u)) Q E s := by
  refine txt_item N hm hx (by decide) ?_ (by decide) (fun t => ?_) hs hg
  · have : xs.length ≠ 0 := fun e => hne (List.length_eq_zero_iff.mp e)
    omega
  · have := h t
    cases xs with
    | nil => exact absurd rfl hne
    | cons x r => exact this
theorem row_notin {d : Addr} {qs : List Row4} {ep : Nat} {k : Str} {b : Bool} {Q : Value → Shared → Prop} (N : News h₀ L s.heap news) (hm : (d, dObj w qs ep) ∈ news) (hn : Keys qs) (lo : (d == sysModules) = false) (hb : (rowGet qs k).isSome = b)
    (h : Q (.bool (!b)) { s with toks := s.toks + 1 }) : wpAny (model prog w) A (compareOp .NotIn (.str k u) (.ref d)) Q E s := by
  have hd := (dictAt_rows (prog := prog) hn (N _ hm).1).dictOf
  refine wpAny_notIn_of (strKind_is _ _ _ _) lo hd.mapOf ?_
  rw [rows_at]
  have : ((rowGet qs k).map fun q => Value.str q.2.2.1 q.2.2.2).isSome = b := by rw [← hb]; cases rowGet qs k <;> rfl
  rw [this]; exact h
theorem txt_star {Q : List Value → Shared → Prop} (F : Fr h₀ L s.heap m) (N : News h₀ L s.heap news) (hm : (l, W.listOf vs.toArray n) ∈ news) (hx : StrsAre vs xs) (hsz : xs.length ≤ 100000)
    (h : ∀ h', Fr h₀ L h' m → News h₀ L h' news → Q vs { s with heap := h' }) : StarOf (model prog w) A E (.ref l) Q s :=
  star_seq F N hm rfl rfl (.inl rfl) (List.toList_toArray) (by rw [List.size_toArray, hx.len_eq, PySem.sizeLine_eq]; omega) h
end
theorem head_room (xs : List Str) : (xs.headD default).length + ((xs.drop (Int.toNat 1)).map (·.length)).sum ≤ (xs.map (·.length)).sum ∧ (xs.drop (Int.toNat 1)).length ≤ xs.length := by
  cases xs with
  | nil => exact ⟨by decide, by decide⟩
  | cons x r => exact ⟨by show x.length + (r.map (·.length)).sum ≤ _; simp, by show r.length ≤ _; simp⟩
theorem rowGet_tb {y : List Nat} {qs qb : List Row4} (T : Tb y qs qb) (c : Nat) : (rowGet qs (one c)).isSome = decide (c ∈ y) := by
  have h := T.1
  clear T
  revert qs
  induction y with
  | nil => intro qs h; simp at h; subst h; simp [rowGet]
  | cons a y ih =>
    intro qs h
    cases qs with
    | nil => simp at h
    | cons q qs =>
      rw [List.map_cons, List.map_cons, List.cons.injEq] at h
      have ih := ih h.2
      have e1 : q.1 = one a := congrArg Prod.fst h.1
      unfold rowGet at ih ⊢
      rw [List.find?_cons]
      by_cases hc : c = a
      · subst hc
        rw [decide_eq_true e1]; simp
      · have : decide (q.1 = one c) = false := decide_eq_false fun e => hc (one_inj (e1.symm.trans e)).symm
        rw [this]
        refine ih.trans ?_
        simp [hc]
theorem drop_last_room (xs : List Str) : (xs.dropLast.map (·.length)).sum ≤ (xs.map (·.length)).sum := by
  rcases List.eq_nil_or_concat xs with rfl | ⟨l, a, rfl⟩
  · exact Nat.le_refl _
  · simp
theorem hokd_of {xs : List Str} (h : (xs.map (·.length)).sum ≤ 100000) : (xs.map (·.length)).sum + xs.length * (Str.ofString "").length ≤ 16777216 := by
  have hz : (Str.ofString "").length = 0 := by decide
  rw [hz]; omega
theorem esc_len1 {y : List Nat} {qs qb : List Row4} (hy : y ∈ Ys) (T : Tb y qs qb) (hq : RowsOk qs) (x : Str) : (escT x qs).length ≤ 5 * x.length := by
  have h1 := imgT_len hq x
  rwa [img_esc hy T] at h1
theorem img_row_len {qs : List Row4} (hq : RowsOk qs) : ∀ xs : List Str, ((xs.map (fun x => imgT x qs)).map (·.length)).sum ≤ 5 * (xs.map (·.length)).sum
  | [] => Nat.le_refl _
  | x :: r => by
    have h1 := imgT_len hq x
    have h2 := img_row_len hq r
    simp only [List.map_cons, List.sum_cons] at h2 ⊢
    omega
theorem spl_room : ∀ l : List Nat, ((spl l).map List.length).sum + (spl l).length = l.length + 1
  | [] => rfl
  | c :: r => by
    have ih := spl_room r
    by_cases hc : c = 47
    · subst hc; rw [spl_sl]; simp only [List.map_cons, List.sum_cons, List.length_cons, List.length_nil]; omega
    · rw [spl_c hc]
      rw [spl_cons_ne (l := r)] at ih
      simp only [List.map_cons, List.sum_cons, List.length_cons] at ih ⊢
      omega
theorem split_room (x : Str) : ((Txt.split x (Str.ofString "/")).map (·.length)).sum + (Txt.split x (Str.ofString "/")).length ≤ x.length + 1 := by
  have h := spl_room (cl x)
  rw [← cl_split x, List.length_map, List.map_map, cl_len] at h
  have e : (List.length ∘ cl) = (fun s : Str => s.length) := by funext s; exact cl_len s
  rw [e] at h
  omega
section
variable {prog : Program} {w : World} {A : Around} {E : Value → Shared → Prop} {s : Shared} {x y : Str} {t u : Tok} {c d : Bool} {Q : Value → Shared → Prop}
theorem ne_str_no (e : x = y) (h : Q (.bool false) s) : wpAny (model prog w) A (compareOp .NotEq (.str x t) (.str y u)) Q E s := by
  refine ne_str ?_
  have : (x != y) = false := by rw [e]; simp
  rw [this]; exact h
theorem eq_str_yes (e : x = y) (h : Q (.bool true) s) : wpAny (model prog w) A (compareOp .Eq (.str x t) (.str y u)) Q E s := by
  refine eq_str ?_
  have : (x == y) = true := by rw [e]; simp
  rw [this]; exact h
theorem ne_bool_no (e : c = d) (h : Q (.bool false) s) : wpAny (model prog w) A (compareOp .NotEq (.bool c) (.bool d)) Q E s := by
  refine ne_bool ?_
  have : (c != d) = false := by rw [e]; simp
  rw [this]; exact h
end
theorem draw_facts {vs ys : List Value} {t : Int} {ns : List Int} (zh2 : IntsAre vs (ownP t)) (zh : IntsAre ys (List.map (fun k' => Int.fmod k' 4096) (List.take 12 ns))) :
    (ownP t).length ≤ 8 ∧ (List.map (fun k' => Int.fmod k' 4096) (List.take 12 ns)).length ≤ 12 ∧ (ownP t ++ List.map (fun k' => Int.fmod k' 4096) (List.take 12 ns)).length ≤ 20 ∧ (ownP t ++ List.map (fun k' => Int.fmod k' 4096) (List.take 12 ns)).length ≤ 30 ∧ ∀ n ∈ ownP t ++ List.map (fun k' => Int.fmod k' 4096) (List.take 12 ns), 0 ≤ n ∧ n < 4096 := by
  have h1 := (ownP_ok t).2
  have h2 : (List.map (fun k' => Int.fmod k' 4096) (List.take 12 ns)).length ≤ 12 := by rw [List.length_map, List.length_take]; omega
  have h3 : (ownP t ++ List.map (fun k' => Int.fmod k' 4096) (List.take 12 ns)).length ≤ 20 := by rw [List.length_append]; omega
  refine ⟨h1, h2, h3, by omega, fun n hn => ?_⟩
  rcases List.mem_append.mp hn with hn | hn
  · exact (ownP_ok t).1 n hn
  · exact drawn_ok _ n hn
theorem nStep_facts (acc : List Str) (x : Int) (hne : acc ≠ []) : nStep acc x ≠ [] ∧ (nStep acc x).length ≤ acc.length + 1 ∧ ((nStep acc x).map (·.length)).sum ≤ (acc.map (·.length)).sum + 1 := by
  have h8 : 0 ≤ Int.fmod x 8 ∧ Int.fmod x 8 < 8 := by rw [Int.fmod_eq_emod_of_nonneg _ (by decide)]; omega
  unfold nStep
  split
  · refine ⟨by simp, by simp, ?_⟩
    rw [List.map_append, List.sum_append]
    show _ + (S0.length + 0) ≤ _
    have : S0.length = 0 := by decide
    omega
  · refine ⟨by simp, by simp, ?_⟩
    have h1 := nMenu_len x h8
    have h2 : (acc.map (·.length)).sum = (acc.dropLast.map (·.length)).sum + (acc.getLastD default).length := by
      rcases List.eq_nil_or_concat acc with rfl | ⟨l, a, rfl⟩
      · exact absurd rfl hne
      · simp
    rw [List.map_append, List.sum_append, h2]
    show _ + ((acc.getLastD default ++ (nMenu x).getD (Int.fmod x 8).toNat default).length + 0) ≤ _
    rw [Str.length_append]
    have h3 : ((nMenu x).getD (Int.fmod x 8).toNat default).length ≤ 1 := h1
    omega
theorem nFold_facts : ∀ (ns : List Int) (acc : List Str), acc ≠ [] → ns.foldl nStep acc ≠ [] ∧ (ns.foldl nStep acc).length ≤ acc.length + ns.length ∧ ((ns.foldl nStep acc).map (·.length)).sum ≤ (acc.map (·.length)).sum + ns.length
  | [], acc, h => ⟨h, Nat.le_refl _, Nat.le_refl _⟩
  | n :: r, acc, h => by
    obtain ⟨a1, a2, a3⟩ := nStep_facts acc n h
    obtain ⟨b1, b2, b3⟩ := nFold_facts r (nStep acc n) a1
    rw [List.foldl_cons, List.length_cons]
    exact ⟨b1, by omega, by omega⟩
theorem namesP_facts {ns : List Int} (h : ns.length ≤ 20) : namesP ns ≠ [] ∧ (namesP ns).length ≤ 21 ∧ ((namesP ns).map (·.length)).sum ≤ 20 := by
  obtain ⟨a, b, c⟩ := nFold_facts ns [S0] (by simp)
  have h1 : ([S0].map (·.length)).sum = 0 := by decide
  rw [h1] at c
  exact ⟨a, by unfold namesP; simp only [List.length_cons, List.length_nil] at b; omega, by unfold namesP; omega⟩
def menu7 : List Str := [Str.ofString "/.", Str.ofString "/", Str.ofString ".", Str.ofString "", Str.ofString "./", Str.ofString "%/", Str.ofString "/.%"]
theorem strs7 {a b c d e f g : Str} {ta tb tc td te tf tg : Tok} : StrsAre [.str a ta, .str b tb, .str c tc, .str d td, .str e te, .str f tf, .str g tg] [a, b, c, d, e, f, g] :=
  .cons _ _ (.cons _ _ (.cons _ _ (.cons _ _ (.cons _ _ (.cons _ _ (.cons _ _ .nil))))))
theorem menu7_in {k : Int} (h : 0 ≤ k ∧ k < 7) : menu7.getD k.toNat default ∈ menu7 := getD_mem' (by show k.toNat < 7; omega)
theorem menu7_ys {y : Str} (h : y ∈ menu7) : cl y ∈ Ys ∧ y.cps.all (· < 128) = true ∧ (cl y).length ≤ 3 := by
  revert y; decide +kernel
theorem cl_get {y : Str} {i c : Nat} (h : y.cps[i]? = some c) : (cl y)[i]? = some c := by rw [← h]; exact Array.getElem?_toList
theorem ys_in {y : List Nat} (h : y ∈ Ys) : y.Nodup ∧ ∀ c ∈ y, c = 47 ∨ c = 46 ∨ c = 37 := by
  revert y; decide
def rfs (a b c d e f : Tok) : List (Value × Value) := [(.str (Str.ofString "/") a, .str (Str.ofString "&sol;") b), (.str (Str.ofString ".") c, .str (Str.ofString "&dot;") d), (.str (Str.ofString "%") e, .str (Str.ofString "&pct;") f)]
section
variable {prog : Program} {w : World} {A : Around} {E : Value → Shared → Prop} {s : Shared} {h₀ : Heap} {L : Addr} {news : Led}
def RefsOk (prog : Program) (w : World) (o : Obj) (n0 : Nat) : Prop := ∃ t1 t2 t3 t4 t5 t6 : Nat, Obj.IsDictOf (PySem.strKind prog w) o (strPairs (rfs t1 t2 t3 t4 t5 t6)) ∧ (1 ≤ t2 ∧ t2 < n0) ∧ (1 ≤ t4 ∧ t4 < n0) ∧ (1 ≤ t6 ∧ t6 < n0)
theorem RefsOk.of {o : Obj} {n0 u : Nat} {t1 t2 t3 t4 t5 t6 : Nat} (zhu : n0 ≤ u) (hd : Obj.IsDictOf (PySem.strKind prog w) o (strPairs (rfs t1 t2 t3 t4 t5 t6))) (h2 : 1 ≤ t2 ∧ t2 < n0) (h4 : 1 ≤ t4 ∧ t4 < n0) (h6 : 1 ≤ t6 ∧ t6 < n0) : 1 ≤ n0 ∧ RefsOk prog w o n0 := ⟨Nat.le_trans h2.1 (Nat.le_of_lt h2.2), _, _, _, _, _, _, hd, h2, h4, h6⟩
theorem ref_get {a : Addr} {o : Obj} {u : Tok} {n0 : Nat} {c : Nat} {Q : Value → Shared → Prop} (N : News h₀ L s.heap news) (hm : (a, o) ∈ news) (hr : RefsOk prog w o n0)
    (hc : c = 47 ∨ c = 46 ∨ c = 37)
    (h : ∀ t' : Nat, 1 ≤ t' → t' < n0 → Q (.str (refOf c) t') { s with toks := s.toks + 1 }) : wpAny (model prog w) A (getItem (.ref a) (.str ⟨#[c]⟩ u)) Q E s := by
  obtain ⟨t1, t2, t3, t4, t5, t6, hd, h2, h4, h6⟩ := hr
  have hD : s.heap.DictOf (PySem.strKind prog w) a (strPairs (rfs t1 t2 t3 t4 t5 t6)) := Heap.dictOf_iff.mpr ⟨o, (N _ hm).1, hd⟩
  have hv : ∃ t', valueAt (strPairs (rfs t1 t2 t3 t4 t5 t6)) (⟨#[c]⟩ : Str) = some (.str (refOf c) t') ∧ 1 ≤ t' ∧ t' < n0 := by
    rcases hc with rfl | rfl | rfl
    · exact ⟨t2, rfl, h2⟩
    · exact ⟨t4, rfl, h4⟩
    · exact ⟨t6, rfl, h6⟩
  obtain ⟨t', hv, h1, h2⟩ := hv
  exact wpAny_getItem_of (strKind_is _ _ _ _) hD.mapOf hv (h t' h1 h2)
end
/-- the tables after i signs -/
def RwI (y : List Nat) (i : Nat) (qs qb : List Row4) : Prop := Tb (y.take i) qs qb ∧ (∀ q ∈ qs, RowOk q) ∧ ∀ q ∈ qb, RowOk q
theorem RwI.zero (y : List Nat) : RwI y 0 [] [] := ⟨⟨by simp, by simp⟩, by simp, by simp⟩
theorem fst_rows {y : List Nat} {qs : List Row4} {f : Nat → Str} {g : Nat → Str} (h : qs.map (fun q => (q.1, q.2.2.1)) = y.map (fun c => (f c, g c))) : qs.map (·.1) = y.map f := by
  have := congrArg (List.map Prod.fst) h
  simpa [List.map_map, Function.comp_def] using this
theorem one_inj {a b : Nat} (h : one a = one b) : a = b := by
  have := congrArg cl h
  simpa [one] using this
theorem ref_inj {a b : Nat} (ha : a = 47 ∨ a = 46 ∨ a = 37) (hb : b = 47 ∨ b = 46 ∨ b = 37) (h : refOf a = refOf b) : a = b := by
  have := congrArg cl h
  rw [cl_ref, cl_ref] at this
  rcases ha with rfl | rfl | rfl <;> rcases hb with rfl | rfl | rfl <;> first | rfl | (exfalso; revert this; decide)
theorem not_before {y : List Nat} (hn : y.Nodup) {i c : Nat} (hc : y[i]? = some c) : c ∉ y.take i := by
  intro hm
  obtain ⟨j, hj⟩ := List.mem_iff_getElem?.mp hm
  rw [List.getElem?_take] at hj
  split at hj
  · rename_i hlt
    have := (List.getElem?_inj (List.getElem?_eq_some_iff.mp hj).1 hn).mp (hj.trans hc.symm)
    omega
  · cases hj
theorem nodup_map {α β : Type} {f : α → β} : ∀ {l : List α}, l.Nodup → (∀ a ∈ l, ∀ b ∈ l, f a = f b → a = b) → (l.map f).Nodup
  | [], _, _ => List.nodup_nil
  | a :: l, h, hf => by
    rw [List.map_cons, List.nodup_cons]
    rw [List.nodup_cons] at h
    refine ⟨fun hm => ?_, nodup_map h.2 fun a ha b hb => hf a (.tail _ ha) b (.tail _ hb)⟩
    obtain ⟨b, hb, e⟩ := List.mem_map.mp hm
    exact h.1 (hf b (.tail _ hb) a (.head _) e ▸ hb)
theorem RwI.keys {y : List Nat} {i : Nat} {qs qb : List Row4} (hy : y ∈ Ys) (h : RwI y i qs qb) : Keys qs ∧ Keys qb := by
  have hn : (y.take i).Nodup := (ys_in hy).1.sublist (List.take_sublist _ _)
  have hin := fun c (hc : c ∈ y.take i) => (ys_in hy).2 c (List.mem_of_mem_take hc)
  unfold Keys
  rw [fst_rows h.1.1, fst_rows h.1.2]
  exact ⟨nodup_map hn fun a _ b _ e => one_inj e, nodup_map hn fun a ha b hb e => ref_inj (hin a ha) (hin b hb) e⟩
theorem RwI.fresh {y : List Nat} {i c : Nat} {qs qb : List Row4} (hy : y ∈ Ys) (h : RwI y i qs qb) (hc : y[i]? = some c) : (⟨#[c]⟩ : Str) ∉ qs.map (·.1) ∧ refOf c ∉ qb.map (·.1) := by
  have hnb := not_before (ys_in hy).1 hc
  have hin := (ys_in hy).2
  have hcm := hin c (List.mem_of_getElem? hc)
  rw [fst_rows h.1.1, fst_rows h.1.2]
  constructor
  · intro hm
    obtain ⟨b, hb, e⟩ := List.mem_map.mp hm
    exact hnb (one_inj (a := b) (b := c) e ▸ hb)
  · intro hm
    obtain ⟨b, hb, e⟩ := List.mem_map.mp hm
    exact hnb (ref_inj (hin b (List.mem_of_mem_take hb)) hcm e ▸ hb)
theorem RwI.succ {y : List Nat} {i c : Nat} {qs qb : List Row4} (h : RwI y i qs qb) (hy : y ∈ Ys) (hc : y[i]? = some c) {n0 u t t2 : Nat} (hn : 1 ≤ n0) (hu : n0 ≤ u) (h1 : 1 ≤ t) (h2 : t < n0) (h3 : 1 ≤ t2) (h4 : t2 < n0) :
    RwI y (i + 1) (qs ++ [(⟨#[c]⟩, u, refOf c, t)]) (qb ++ [(refOf c, t2, ⟨#[c]⟩, u)]) := by
  have hcm := (ys_in hy).2 c (List.mem_of_getElem? hc)
  have e1 : ((⟨#[c]⟩ : Str) == refOf c) = false := by rcases hcm with rfl | rfl | rfl <;> decide
  have e2 : (refOf c == (⟨#[c]⟩ : Str)) = false := by rcases hcm with rfl | rfl | rfl <;> decide
  have e3 : (refOf c).length ≤ 5 := by rcases hcm with rfl | rfl | rfl <;> decide
  refine ⟨⟨?_, ?_⟩, ?_, ?_⟩
  · rw [List.take_add_one, hc, List.map_append, h.1.1, List.map_append]; rfl
  · rw [List.take_add_one, hc, List.map_append, h.1.2, List.map_append]; rfl
  · intro q hq
    rcases List.mem_append.mp hq with hq | hq
    · exact h.2.1 q hq
    · rw [List.mem_singleton.mp hq]
      exact ⟨by show u ≠ 0; omega, by show t ≠ 0; omega, by show u ≠ t; omega, e1, e3⟩
  · intro q hq
    rcases List.mem_append.mp hq with hq | hq
    · exact h.2.2 q hq
    · rw [List.mem_singleton.mp hq]
      exact ⟨by show t2 ≠ 0; omega, by show u ≠ 0; omega, by show t2 ≠ u; omega, e2, by show 1 ≤ 5; omega⟩
theorem RwI.len {y : List Nat} {i : Nat} {qs qb : List Row4} (h : RwI y i qs qb) : qs.length ≤ y.length ∧ qb.length ≤ y.length := by
  have a := congrArg List.length h.1.1
  have b := congrArg List.length h.1.2
  rw [List.length_map, List.length_map, List.length_take] at a b
  omega
theorem RwI.fin {y : List Nat} {qs qb : List Row4} (hy : y ∈ Ys) (h3 : y.length ≤ 3) {i : Nat} (hi : i = y.length) (h : RwI y i qs qb) : Tb y qs qb ∧ RowsOk qs ∧ RowsOk qb := by
  have k := h.keys hy
  have l := h.len
  have t := h.1
  rw [hi, List.take_length] at t
  exact ⟨t, ⟨k.1, by omega, h.2.1⟩, ⟨k.2, by omega, h.2.2⟩⟩
/-! signs that are signs -/
def OkS (x : Str) : Prop := ∀ c ∈ cl x, c < 1114112
theorem strOk_of {x : Str} (h : OkS x) : PyData.strOk x = true := by
  show x.cps.all (fun c => decide (c < 0x110000)) = true
  rw [← Array.all_toList, List.all_eq_true]
  intro c hc
  exact decide_eq_true (h c hc)
theorem okS_app {a b : Str} (ha : OkS a) (hb : OkS b) : OkS (a ++ b) := by
  intro c hc
  rw [cl_app] at hc
  exact (List.mem_append.mp hc).elim (ha c) (hb c)
theorem nMenu_ok (x : Int) : ∀ y ∈ nMenu x, OkS y := by
  intro y hy
  unfold nMenu at hy
  simp only [List.mem_cons, List.not_mem_nil, or_false] at hy
  have h256 : (Int.fmod (Int.fdiv x 8) 256).toNat < 256 := by
    have : 0 ≤ Int.fmod (Int.fdiv x 8) 256 ∧ Int.fmod (Int.fdiv x 8) 256 < 256 := by rw [Int.fmod_eq_emod_of_nonneg _ (by decide)]; omega
    omega
  rcases hy with rfl | rfl | rfl | rfl | rfl | rfl | rfl | rfl
  · intro c hc; revert c; decide
  · intro c hc; revert c; decide
  · intro c hc; revert c; decide
  · intro c hc; revert c; decide
  · intro c hc; revert c; decide
  · intro c hc; revert c; decide
  · intro c hc
    have : c = (Int.fmod (Int.fdiv x 8) 256).toNat := by simpa using hc
    omega
  · intro c hc; revert c; decide
theorem okS_emp : OkS S0 := by
  have e : cl S0 = [] := by decide
  intro c hc; rw [e] at hc; cases hc
theorem nStep_ok {acc : List Str} (x : Int) (h : ∀ y ∈ acc, OkS y) (hne : acc ≠ []) : ∀ y ∈ nStep acc x, OkS y := by
  have h8 : 0 ≤ Int.fmod x 8 ∧ Int.fmod x 8 < 8 := by rw [Int.fmod_eq_emod_of_nonneg _ (by decide)]; omega
  unfold nStep
  split
  · intro y hy
    rcases List.mem_append.mp hy with hy | hy
    · exact h y hy
    · rw [List.mem_singleton.mp hy]; exact okS_emp
  · intro y hy
    rcases List.mem_append.mp hy with hy | hy
    · exact h y (List.dropLast_subset _ hy)
    · rw [List.mem_singleton.mp hy]
      exact okS_app (h _ (getLastD_mem' hne)) (nMenu_ok x _ (getD_mem' (by show (Int.fmod x 8).toNat < 8; omega)))
theorem nFold_ok : ∀ (ns : List Int) (acc : List Str), (∀ y ∈ acc, OkS y) → acc ≠ [] → ∀ y ∈ ns.foldl nStep acc, OkS y
  | [], _, h, _ => h
  | n :: r, acc, h, hne => nFold_ok r (nStep acc n) (nStep_ok n h hne) (nStep_facts acc n hne).1
theorem namesP_ok (ns : List Int) : ∀ y ∈ namesP ns, OkS y := nFold_ok ns [S0] (by
  intro y hy; rw [List.mem_singleton.mp hy]; exact okS_emp) (by simp)
theorem keptS_ok {ps : List Str} (h : ∀ y ∈ ps, OkS y) : ∀ y ∈ keptS ps, OkS y := by
  intro y hy
  unfold keptS at hy
  rcases List.mem_append.mp hy with hy | hy
  · exact h y (List.dropLast_subset _ (List.mem_filter.mp hy).1)
  · rw [List.mem_singleton.mp hy, List.getLastD_eq_getLast?]
    cases hg : ps.getLast? with
    | none => intro c hc; rw [show cl (none.getD default : Str) = [] from cl_default] at hc; cases hc
    | some v => exact h v (List.mem_of_getLast? hg)
theorem jStep_ok {p b : Str} (hp : OkS p) (hb : OkS b) : OkS (jStep p b) := by
  have hs : OkS (Str.ofString "/") := by intro c hc; revert c; decide
  unfold jStep
  split
  · exact hb
  · split
    · exact okS_app hp hb
    · exact okS_app hp (okS_app hs hb)
theorem join_okS : ∀ (xs : List Str) (x : Str), OkS x → (∀ y ∈ xs, OkS y) → OkS (joinP x xs)
  | [], _, h, _ => h
  | b :: r, x, h, hr => join_okS r (jStep x b) (jStep_ok h (hr b (.head _))) fun y hy => hr y (.tail _ hy)
theorem told_okS {xs : List Str} (hn : xs ≠ []) (h : ∀ y ∈ xs, OkS y) : OkS (toldP xs) := by
  rw [told_join hn]
  cases xs with
  | nil => exact absurd rfl hn
  | cons x r => exact join_okS r x (h x (.head _)) fun y hy => h y (.tail _ hy)
theorem front_okS {x : Str} (h : OkS x) : OkS (frontP x) := by
  intro c hc
  rw [cl_front] at hc
  exact h c (List.takeWhile_subset _ hc)
theorem spl_sub : ∀ (l : List Nat), ∀ p ∈ spl l, ∀ c ∈ p, c ∈ l
  | [], p, hp, c, hc => by
    rw [show spl [] = [[]] from rfl, List.mem_singleton] at hp
    rw [hp] at hc; cases hc
  | a :: r, p, hp, c, hc => by
    have ih := spl_sub r
    by_cases ha : a = 47
    · subst ha
      rw [spl_sl] at hp
      rcases List.mem_cons.mp hp with rfl | hp
      · cases hc
      · exact .tail _ (ih p hp c hc)
    · rw [spl_c ha] at hp
      rw [spl_cons_ne (l := r)] at ih
      rcases List.mem_cons.mp hp with rfl | hp
      · rcases List.mem_cons.mp hc with rfl | hc
        · exact .head _
        · exact .tail _ (ih _ (.head _) c hc)
      · exact .tail _ (ih p (.tail _ hp) c hc)
theorem pieces_okS {x : Str} (h : OkS x) : ∀ y ∈ piecesP x, OkS y := by
  intro y hy c hc
  have h1 : cl y ∈ (piecesP x).map cl := List.mem_map.mpr ⟨y, hy, rfl⟩
  rw [cl_pieces] at h1
  exact h c (List.dropWhile_subset _ (spl_sub _ _ h1 c hc))
theorem st_canLayAll0 : ∀ xs : List Str, (∀ x ∈ xs, OkS x) → PyData.canLayAll0 (xs.map PyData.str) = true
  | [], _ => rfl
  | x :: r, h => by
    simp only [List.map_cons, PyData.canLayAll0, PyData.canLay0, strOk_of (h x (.head _)), st_canLayAll0 r (fun y hy => h y (.tail _ hy)), Bool.and_self]
theorem st_depthAll : ∀ xs : List Str, PyData.depthAll (xs.map PyData.str) = 0
  | [] => rfl
  | _ :: r => by simp [PyData.depthAll, PyData.depth, st_depthAll r]
theorem st_carried : ∀ {vs : List Value} {xs : List Str}, StrsAre vs xs → CarriedAll vs (xs.map PyData.str)
  | _, _, .nil => .nil
  | _, _, .cons _ t r => .cons (.str _ t) (st_carried r)
theorem st_eqv : ∀ xs : List Str, PyData.eqvAll (xs.map PyData.str) (xs.map PyData.str) = true
  | [] => by simp [PyData.eqvAll]
  | a :: r => by
    simp only [List.map_cons, PyData.eqvAll, PyData.eqv, st_eqv r]; simp
section
variable {prog : Program} {w : World} {A : Around} {E : Value → Shared → Prop} {s : Shared} {h₀ : Heap} {L : Addr} {news : Led}
theorem pair_eq {D1 D2 l1 l2 : Addr} {a b : Str} {t1 t2 : Tok} {vs1 vs2 : List Value} {xs ys : List Str} {c1 c2 : Nat} {Q : Value → Shared → Prop} (N : News h₀ L s.heap news)
    (m1 : (D1, tupOf [.str a t1, .ref l1]) ∈ news) (m2 : (l1, W.listOf vs1.toArray c1) ∈ news) (hx1 : StrsAre vs1 xs)
    (m3 : (D2, tupOf [.str b t2, .ref l2]) ∈ news) (m4 : (l2, W.listOf vs2.toArray c2) ∈ news) (hx2 : StrsAre vs2 ys) (ea : a = b) (ex : xs = ys) (oa : OkS b) (ox : ∀ y ∈ ys, OkS y) (hu : A.units + 64 < cLine) (h : Q (.bool true) s) :
    wpAny (model prog w) A (compareOp .Eq (.ref D1) (.ref D2)) Q E s := by
  subst ea ex
  have r1 := reads_newData (News.isList N m2) (st_carried hx1)
  have r2 := reads_newData (News.isList N m4) (st_carried hx2)
  have sh : SeqAt.shaped (.tuple [.str a, .list (xs.map PyData.str)]) = true := by
    simp [SeqAt.shaped, PyData.canLay0, PyData.canLayAll0, PyData.depth, PyData.depthAll, st_canLayAll0 xs ox, st_depthAll, strOk_of oa]
  refine eq_dataH (reads_tuple_at (News.get N m1) rfl rfl (.cons (.str _ _) (.cons r1 .nil))) (reads_tuple_at (News.get N m3) rfl rfl (.cons (.str _ _) (.cons r2 .nil))) sh sh hu ?_
  have e : PyData.eqv (.tuple [.str a, .list (xs.map PyData.str)]) (.tuple [.str a, .list (xs.map PyData.str)]) = true := by
    simp [PyData.eqv, PyData.eqvAll, st_eqv]
  rw [e]; exact h
end
end
noncomputable abbrev lawEnv (L fa : Addr) (cd : Value) : Env := envOfC (Str.ofString "law") lawRec.scope L fa cd
/-- what stands around the law's walk -/
structure Around0 (w : World) (mean : ExcName → Option Value) (mg mb : Str → Option Value) (base h₀ : Heap) : Prop where
  B : Below callerA base [] h₀
  X : (pre.heap_1 w.params).In h₀
  T : Top VV (looseW VV [Str.ofString "escape", Str.ofString "unescape"]) mean mg mb h₀
/-- what is known of the names and the tables -/
structure Facts (Y : List Nat) (qs qb : List Row4) (NS : List Str) : Prop where
  hy : Y ∈ Ys
  T : Tb Y qs qb
  hq : RowsOk qs
  hb : RowsOk qb
  ne : NS ≠ []
  len : NS.length ≤ 21
  sum : (NS.map (·.length)).sum ≤ 20
  ok : ∀ y ∈ NS, OkS y
theorem fr_upd {h₀ h : Heap} {L : Addr} {m : Str → Option Value} {x : Str} {v : Value} (F : Fr h₀ L h m) (e : m x = some v) : Fr h₀ L h (fun y => if y = x then some v else m y) := fr_congr F (upd1 e)
theorem seg1 {w : World} {mean : ExcName → Option Value} {mg mb : Str → Option Value} {base h₀ : Heap} {L fa : Addr} {cd : Value} {m₀ : Str → Option Value} {s : Shared} {Q : Flow → Shared → Prop} {E : Value → Shared → Prop} (A0 : Around0 w mean mg mb base h₀) {Y : List Nat} {qs qb : List Row4} {NS : List Str} {d1 d2 D9 : Addr} {e1 e2 c9 : Nat} {ws9 : List Value} {oc : Obj} (K : Facts Y qs qb NS) (hs9 : StrsAre ws9 NS) (hoc : oc.data = .cell (some (.ref d1))) (lo1 : (d1 == sysModules) = false) (lo2 : (d2 == sysModules) = false) {DW : Addr} {cW : Nat} {ys : List Value} (hJ : StrsAre ys (NS.map (fun x => escT x qs)))
    (F : Fr h₀ L s.heap (fun y => if y = Str.ofString "written" then some (.ref DW) else if y = Str.ofString "back" then some (.ref d2) else if y = Str.ofString "names" then some (.ref D9) else m₀ y)) (N : News h₀ L s.heap [(DW, W.listOf ys.toArray cW), (d2, dObj w qb e2), (d1, dObj w qs e1), (D9, W.listOf ws9.toArray c9), (L + 1, oc)])
    (next : ∀ (h' : Heap) (tk' : Nat) (m₁ : Str → Option Value) (t1 t2 : Tok), 1 ≤ tk' → Fr h₀ L h' (fun y => if y = Str.ofString "path" then some (.str (joinP ((NS.map (fun x => escT x qs)).headD default) ((NS.map (fun x => escT x qs)).drop (Int.toNat 1))) t1) else if y = Str.ofString "once" then some (.str (escT (joinP (NS.headD default) (NS.drop (Int.toNat 1))) qs) t2) else if y = Str.ofString "back" then some (.ref d2) else if y = Str.ofString "names" then some (.ref D9) else m₁ y) → News h₀ L h' [(d2, dObj w qb e2), (d1, dObj w qs e1), (D9, W.listOf ws9.toArray c9), (L + 1, oc)] → wpAny (model PySem.Challenge.rw_ij0051_01.row.prog w) (callerA.deeper (lawEnv L fa cd)) (execs (lawRec.body.drop 12) (lawEnv L fa cd)) Q E { s with heap := h', toks := tk' }) :
    wpAny (model PySem.Challenge.rw_ij0051_01.row.prog w) (callerA.deeper (lawEnv L fa cd)) (execs (lawRec.body.drop 9) (lawEnv L fa cd)) Q E s := by
  obtain ⟨B, X, T⟩ := A0
  revert X
  w_on
  w_strict (
    k_fill
    intro X
    unfold lawEnv lawRec recBy
    dsimp only [List.drop]
    obtain ⟨hp0, gn0, dr0, tk0, os0⟩ := s
    dsimp only at F N next ⊢
    obtain ⟨hY, hT, hq, hqb, hns0, hnsl, hnss, hok⟩ := K
    have hwl := esc_row_len hY hT hq NS
    have hWne : NS.map (fun x => escT x qs) ≠ [] := by simpa using hns0
    have hWl : (NS.map (fun x => escT x qs)).length ≤ 21 := by rw [List.length_map]; exact hnsl
    have hwh := head_room (NS.map (fun x => escT x qs))
    have hnh := head_room NS
    have hWd : ((NS.map (fun x => escT x qs)).drop (Int.toNat 1)).length ≤ 21 := by omega
    have hNd : (NS.drop (Int.toNat 1)).length ≤ 21 := by omega
    have hjn : (joinP (NS.headD default) (NS.drop (Int.toNat 1))).length ≤ 41 := Nat.le_trans (jFold_len _ _) (by omega)
    have hokd := hokd_of (Nat.le_trans (drop_last_room NS) (by omega))
    have hg1 := rowGet_tb hT 47
    rw [show one 47 = Str.ofString "/" by decide] at hg1
    by_cases hb47 : 47 ∈ Y
    · rw [decide_eq_true hb47] at hg1
      have hm3 := m_sameA hY hT hns0 hb47
      clear hok hY hT
      repeat' ((fail_if_success (with_reducible show wpAny _ _ (execs (PySem.Stmt.Assign [PySem.Expr.Name (PySem.Str.ofString "whole") _] _ _ :: _) _) _ _ _)); ((first | ((with_reducible show wpAny _ _ (call (Value.ref 37) _) _ _ _); (k_here; (try simp only [List.append_nil]); (with_reducible show wpAny _ _ (call (Value.ref 37) _) _ _ _); k_dflt (refine' Tells.useS ?k1Qz ?k2Qz ?k3Qz ?k4Qz ?k5Qz ?k6Qz ?kcQz ?k7Qz ?k8Qz ?k9Qz ?_; (case k1Qz => k_asm); (case k2Qz => k_asm); (case k3Qz => k_asm); (case k4Qz => k_asm); (case k5Qz => k_asm); (case kcQz => exact Tells.one (escape_ok _ _ _ _ _ (by k_mem) (by assumption) (by assumption) (by omega))); (case k6Qz => first | exact rfl | assumption); (case k7Qz => ktr_room); (case k8Qz => ktr_units); (case k9Qz => first | exact Nat.zero_le _ | ((try dsimp only); omega)); k_whole; intro t9 h9 tk9 F9 N9 htk9))) | ((with_reducible show wpAny _ _ (call (Value.ref 140) _) _ _ _); (k_here; (try simp only [List.append_nil]); (with_reducible show wpAny _ _ (call (Value.ref 140) _) _ _ _); k_dflt (refine' Tells.useS ?k1Qz ?k2Qz ?k3Qz ?k4Qz ?k5Qz ?k6Qz ?kcQz ?k7Qz ?k8Qz ?k9Qz ?_; (case k1Qz => k_asm); (case k2Qz => k_asm); (case k3Qz => k_asm); (case k4Qz => k_asm); (case k5Qz => k_asm); (case kcQz => exact Tells.one (join_ok _ _ _ _ (by assumption) (by first | assumption | omega))); (case k6Qz => first | exact rfl | assumption); (case k7Qz => ktr_room); (case k8Qz => ktr_units); (case k9Qz => first | exact Nat.zero_le _ | ((try dsimp only); omega)); k_whole; intro t9 h9 tk9 F9 N9 htk9))) | ((with_reducible show wpAny _ _ (compareOp CmpOp.Eq (Value.str _ _) (Value.str _ _)) _ _ _); (k_here; k_dflt (refine' eq_str_yes ?k1Qz ?_; (case k1Qz => assumption); k_whole))) | ((with_reducible show wpAny _ _ (compareOp CmpOp.NotEq (Value.bool _) (Value.bool _)) _ _ _); (k_here; k_dflt (refine' ne_bool_no ?k1Qz ?_; (case k1Qz => first | assumption | exact rfl); k_whole))) | ((with_reducible show wpAny _ _ (compareOp CmpOp.NotEq (Value.str _ _) (Value.str _ _)) _ _ _); (k_here; k_dflt (refine' ne_str_no ?k1Qz ?_; (case k1Qz => assumption); k_whole))) | ((with_reducible show StarOf _ _ _ (Value.ref _) _ _); (k_here; k_dflt (refine' txt_star ?k1Qz ?k2Qz ?k3Qz ?k4Qz ?k5Qz ?_; (case k1Qz => k_asm); (case k2Qz => k_asm); (case k3Qz => k_mem); (case k4Qz => assumption); (case k5Qz => omega); k_whole); intro h' F' N'; (try k_sweep); (try simp only [List.nil_append, List.cons_append, List.append_nil]))) | ((with_reducible show wpAny _ _ (subscriptTail _ _ (Value.ref _) (Value.int _ _)) _ _ _); (k_here; (with_reducible show wpAny _ _ (subscriptTail _ _ (Value.ref _) (Value.int 0 _)) _ _ _); k_dflt (refine' txt_first ?k1Qz ?k2Qz ?k3Qz ?k4Qz ?_ ?k5Qz ?k6Qz; (case k1Qz => k_asm); (case k2Qz => k_mem); (case k3Qz => assumption); (case k4Qz => assumption); (case k5Qz => with_unfolding_all rfl); (case k6Qz => (intro _; with_unfolding_all rfl)); k_whole); intro t9)) | ((with_reducible show wpAny _ _ (compareOp CmpOp.NotIn (Value.str _ _) (Value.ref _)) _ _ _); (k_here; k_dflt (refine' row_notin ?k1Qz ?k2Qz ?k3Qz ?k4Qz ?k5Qz ?_; (case k1Qz => k_asm); (case k2Qz => k_mem); (case k3Qz => exact RowsOk.keys (by assumption)); (case k4Qz => assumption); (case k5Qz => assumption); k_whole))) | ((with_reducible show wpAny _ _ (call (Value.builtin "str.split") _) _ _ _); (k_here; (try dsimp only [List.cons_append, List.nil_append]); (with_reducible show wpAny _ _ (call (Value.builtin _) [Value.str _ _, Value.str _ _]) _ _ _); k_dflt (refine' txt_split ?k1Qz ?k2Qz ?k3Qz ?k4Qz ?_; (case k1Qz => k_asm); (case k2Qz => k_asm); (case k3Qz => rfl); (case k4Qz => omega); k_whole); intro D' h' ws k9 F' N' l1 hs9; (try k_lt l1); (try k_sweep))) | ((with_reducible show wpAny _ _ (subscriptTail _ (PySem.Expr.Slice _ _ _ _) (Value.ref _) (Value.ref _)) _ _ _); (k_here; (with_reducible show wpAny _ _ (subscriptTail _ (PySem.Expr.Slice _ _ none _) (Value.ref _) (Value.ref _)) _ _ _); k_dflt (refine' txt_slice (s := ⟨_, _, _, _, _⟩) ?FQz ?NQz ?mQz ?xQz ?zQz ?pQz ?qQz ?yQz ?_ ?sQz ?tQz; (case FQz => k_asm); (case NQz => k_asm); (case mQz => k_mem); (case xQz => assumption); (case zQz => omega); (case pQz => first | exact IsPart.none | exact IsPart.int _ _); (case qQz => first | exact IsPart.none | exact IsPart.int _ _); (case yQz => first | exact pick_upto1 (by assumption) | exact pick_run1 (by assumption) (by omega) | exact pick_from (by assumption) (by omega)); (case sQz => with_unfolding_all rfl); (case tQz => (intro _; with_unfolding_all rfl)); k_whole); intro D' h' ws F' N' l1 hs9; (try k_lt l1); (try k_sweep))) | ((with_reducible show wpAny _ _ (subscriptTail _ (PySem.Expr.Slice _ _ _ _) (Value.ref _) (Value.ref _)) _ _ _); (k_here; (with_reducible show wpAny _ _ (subscriptTail _ (PySem.Expr.Slice none none (some _) _) (Value.ref _) (Value.ref _)) _ _ _); k_dflt (refine' txt_rev (s := ⟨_, _, _, _, _⟩) ?FQz ?NQz ?mQz ?xQz ?zQz ?kQz ?_ ?sQz ?tQz; (case FQz => k_asm); (case NQz => k_asm); (case mQz => k_mem); (case xQz => assumption); (case zQz => omega); (case kQz => exact IsPart.int _ _); (case sQz => with_unfolding_all rfl); (case tQz => (intro _; with_unfolding_all rfl)); k_whole); intro D' h' ws F' N' l1 hs9; (try k_lt l1); (try k_sweep))) | ((with_reducible show wpAny _ _ (binaryOp Operator.Add (Value.ref _) (Value.ref _)) _ _ _); (k_here; (with_reducible show wpAny _ _ (binaryOp _ (Value.ref _) (Value.ref _)) _ _ _); k_dflt (refine' txt_add ?k1Qz ?k2Qz ?k3Qz ?k4Qz ?k5Qz ?k6Qz ?k7Qz ?_; (case k1Qz => k_asm); (case k2Qz => k_asm); (case k3Qz => k_mem); (case k4Qz => assumption); (case k5Qz => k_mem); (case k6Qz => assumption); (case k7Qz => omega); k_whole); intro D' h' F' N' l1 hs9; (try k_lt l1); (try k_sweep))) | ((with_reducible show wpAny _ _ (call (Value.builtin "list.insert") _) _ _ _); (k_here; (try dsimp only [List.cons_append, List.nil_append]); (with_reducible show wpAny _ _ (call (Value.builtin _) [Value.ref _, Value.int 0 _, Value.str _ _]) _ _ _); k_dflt (refine' txt_insert0 ?k1Qz ?k2Qz ?k3Qz ?k4Qz ?k5Qz ?_; (case k1Qz => k_asm); (case k2Qz => k_asm); (case k5Qz => k_upd); (case k3Qz => assumption); (case k4Qz => omega); k_whole); intro h' F' N' hs9; (try k_sweep))) | ((with_reducible show wpAny _ _ (call (Value.builtin "list.pop") _) _ _ _); (k_here; (try dsimp only [List.cons_append, List.nil_append]); (with_reducible show wpAny _ _ (call (Value.builtin _) [Value.ref _]) _ _ _); k_dflt (refine' txt_pop ?k1Qz ?k2Qz ?k3Qz ?k6Qz ?k4Qz ?k5Qz ?_; (case k1Qz => k_asm); (case k2Qz => k_asm); (case k5Qz => k_upd); (case k3Qz => assumption); (case k4Qz => omega); (case k6Qz => first | assumption | exact ne1 (by assumption) | exact ne2 (by assumption)); k_whole); intro h' t9 F' N' hs9; (try k_sweep))) | ((with_reducible show wpAny _ _ (call (Value.builtin "list.append") _) _ _ _); (k_here; (try dsimp only [List.cons_append, List.nil_append]); (with_reducible show wpAny _ _ (call (Value.builtin _) [Value.ref _, Value.str _ _]) _ _ _); k_dflt (refine' txt_append ?k1Qz ?k2Qz ?k3Qz ?k4Qz ?k5Qz ?_; (case k1Qz => k_asm); (case k2Qz => k_asm); (case k5Qz => k_upd); (case k3Qz => assumption); (case k4Qz => omega); k_whole); intro h' F' N' hs9; (try k_sweep))) | ((with_reducible show wpAny _ _ (call (Value.builtin "str.join") _) _ _ _); (k_here; (try dsimp only [List.cons_append, List.nil_append]); (with_reducible show wpAny _ _ (call (Value.builtin _) [Value.str _ _, Value.ref _]) _ _ _); k_dflt (refine' txt_join ?k1Qz ?k2Qz ?k3Qz ?k4Qz ?_; (case k1Qz => k_asm); (case k2Qz => k_mem); (case k3Qz => assumption); (case k4Qz => first | assumption | omega); k_whole); intro t9 k9)) | ((with_reducible show wpAny _ _ (call (Value.builtin "len") _) _ _ _); (k_here; (with_reducible show wpAny _ _ (call (Value.builtin _) [Value.ref _]) _ _ _); k_dflt (refine' txt_len ?k1Qz ?k2Qz ?k3Qz ?k4Qz ?_; (case k1Qz => k_asm); (case k2Qz => k_mem); (case k3Qz => assumption); (case k4Qz => omega); k_whole))) | ((with_reducible show wpAny _ _ (truthy (Value.ref _)) _ _ _); (k_here; k_dflt (refine' txt_truthy ?k1Qz ?k2Qz ?k3Qz ?k4Qz ?_; (case k1Qz => k_asm); (case k2Qz => k_mem); (case k3Qz => assumption); (case k4Qz => omega); k_whole))) | ((with_reducible show wpAny _ _ (subscriptTail _ _ (Value.ref _) (Value.int _ _)) _ _ _); (k_here; (with_reducible show wpAny _ _ (subscriptTail _ _ (Value.ref _) (Value.int (-1) _)) _ _ _); k_dflt (refine' txt_last ?k1Qz ?k2Qz ?k3Qz ?k4Qz ?_ ?k5Qz ?k6Qz; (case k1Qz => k_asm); (case k2Qz => k_mem); (case k3Qz => assumption); (case k4Qz => first | assumption | exact ne1 (by assumption) | exact ne2 (by assumption)); (case k5Qz => with_unfolding_all rfl); (case k6Qz => (intro _; with_unfolding_all rfl)); k_whole); intro t9)) | ((with_reducible show wpAny _ _ (binaryOp Operator.Add (Value.str _ _) (Value.str _ _)) _ _ _); ((with_reducible show wpAny _ _ (binaryOp Operator.Add (Value.str _ _) (Value.str _ _)) _ _ _); (refine SB.add (hsz := ?hszQz) ?_); (case hszQz => (rw [PySem.sizeLine_eq]; (try simp only [Str.length_append]); omega)); intro t9 k9)) | ((with_reducible show wpAny _ _ (call (Value.builtin "list.append") _) _ _ _); (k_here; (try dsimp only [List.cons_append, List.nil_append]); (with_reducible show wpAny _ _ (call (Value.builtin _) [Value.ref _, _]) _ _ _); k_dflt (refine' append_K ?k1Qz ?k2Qz ?k3Qz ?_ ?zQz; (case k1Qz => k_asm); (case k2Qz => k_asm); (case k3Qz => k_upd); (case zQz => size_fits); k_whole); intro h' F' N'; (try k_sweep))) | ((with_reducible show wpAny _ _ (execs [] _) _ _ _); (k_here; (with_reducible refine wpAny_execs_nil ?_); (try dsimp only))) | ((with_reducible show wpAny _ _ (execs (_ :: _) _) _ _ _); (k_here; (with_reducible refine wpAny_execs_cons ?_); (try dsimp only))) | walk1) <;> (try dsimp only)))
      all_goals (rename Fr _ _ _ _ => F9; rename News _ _ _ _ => N9; exact next _ _ _ _ _ (by omega) (fr_upd (fr_upd (fr_upd (fr_upd F9 rfl) rfl) rfl) rfl) (news_drop N9 (by first | exact fun p hp => hp | exact fun p hp => (.tail _ hp) | exact fun p hp => (.tail _ (.tail _ hp)) | exact fun p hp => (.tail _ (.tail _ (.tail _ hp))) | exact fun p hp => (.tail _ (.tail _ (.tail _ (.tail _ hp)))) | exact fun p hp => (.tail _ (.tail _ (.tail _ (.tail _ (.tail _ hp))))) | exact fun p hp => (.tail _ (.tail _ (.tail _ (.tail _ (.tail _ (.tail _ hp)))))) | exact fun p hp => (.tail _ (.tail _ (.tail _ (.tail _ (.tail _ (.tail _ (.tail _ hp))))))) | exact fun p hp => (.tail _ (.tail _ (.tail _ (.tail _ (.tail _ (.tail _ (.tail _ (.tail _ hp)))))))))))
    · rw [decide_eq_false hb47] at hg1
      have hm3 := m_sameB hY hT hns0 hb47
      clear hok hY hT
      repeat' ((fail_if_success (with_reducible show wpAny _ _ (execs (PySem.Stmt.Assign [PySem.Expr.Name (PySem.Str.ofString "whole") _] _ _ :: _) _) _ _ _)); ((first | ((with_reducible show wpAny _ _ (call (Value.ref 37) _) _ _ _); (k_here; (try simp only [List.append_nil]); (with_reducible show wpAny _ _ (call (Value.ref 37) _) _ _ _); k_dflt (refine' Tells.useS ?k1Qz ?k2Qz ?k3Qz ?k4Qz ?k5Qz ?k6Qz ?kcQz ?k7Qz ?k8Qz ?k9Qz ?_; (case k1Qz => k_asm); (case k2Qz => k_asm); (case k3Qz => k_asm); (case k4Qz => k_asm); (case k5Qz => k_asm); (case kcQz => exact Tells.one (escape_ok _ _ _ _ _ (by k_mem) (by assumption) (by assumption) (by omega))); (case k6Qz => first | exact rfl | assumption); (case k7Qz => ktr_room); (case k8Qz => ktr_units); (case k9Qz => first | exact Nat.zero_le _ | ((try dsimp only); omega)); k_whole; intro t9 h9 tk9 F9 N9 htk9))) | ((with_reducible show wpAny _ _ (call (Value.ref 140) _) _ _ _); (k_here; (try simp only [List.append_nil]); (with_reducible show wpAny _ _ (call (Value.ref 140) _) _ _ _); k_dflt (refine' Tells.useS ?k1Qz ?k2Qz ?k3Qz ?k4Qz ?k5Qz ?k6Qz ?kcQz ?k7Qz ?k8Qz ?k9Qz ?_; (case k1Qz => k_asm); (case k2Qz => k_asm); (case k3Qz => k_asm); (case k4Qz => k_asm); (case k5Qz => k_asm); (case kcQz => exact Tells.one (join_ok _ _ _ _ (by assumption) (by first | assumption | omega))); (case k6Qz => first | exact rfl | assumption); (case k7Qz => ktr_room); (case k8Qz => ktr_units); (case k9Qz => first | exact Nat.zero_le _ | ((try dsimp only); omega)); k_whole; intro t9 h9 tk9 F9 N9 htk9))) | ((with_reducible show wpAny _ _ (compareOp CmpOp.Eq (Value.str _ _) (Value.str _ _)) _ _ _); (k_here; k_dflt (refine' eq_str_yes ?k1Qz ?_; (case k1Qz => assumption); k_whole))) | ((with_reducible show wpAny _ _ (compareOp CmpOp.NotEq (Value.bool _) (Value.bool _)) _ _ _); (k_here; k_dflt (refine' ne_bool_no ?k1Qz ?_; (case k1Qz => first | assumption | exact rfl); k_whole))) | ((with_reducible show wpAny _ _ (compareOp CmpOp.NotEq (Value.str _ _) (Value.str _ _)) _ _ _); (k_here; k_dflt (refine' ne_str_no ?k1Qz ?_; (case k1Qz => assumption); k_whole))) | ((with_reducible show StarOf _ _ _ (Value.ref _) _ _); (k_here; k_dflt (refine' txt_star ?k1Qz ?k2Qz ?k3Qz ?k4Qz ?k5Qz ?_; (case k1Qz => k_asm); (case k2Qz => k_asm); (case k3Qz => k_mem); (case k4Qz => assumption); (case k5Qz => omega); k_whole); intro h' F' N'; (try k_sweep); (try simp only [List.nil_append, List.cons_append, List.append_nil]))) | ((with_reducible show wpAny _ _ (subscriptTail _ _ (Value.ref _) (Value.int _ _)) _ _ _); (k_here; (with_reducible show wpAny _ _ (subscriptTail _ _ (Value.ref _) (Value.int 0 _)) _ _ _); k_dflt (refine' txt_first ?k1Qz ?k2Qz ?k3Qz ?k4Qz ?_ ?k5Qz ?k6Qz; (case k1Qz => k_asm); (case k2Qz => k_mem); (case k3Qz => assumption); (case k4Qz => assumption); (case k5Qz => with_unfolding_all rfl); (case k6Qz => (intro _; with_unfolding_all rfl)); k_whole); intro t9)) | ((with_reducible show wpAny _ _ (compareOp CmpOp.NotIn (Value.str _ _) (Value.ref _)) _ _ _); (k_here; k_dflt (refine' row_notin ?k1Qz ?k2Qz ?k3Qz ?k4Qz ?k5Qz ?_; (case k1Qz => k_asm); (case k2Qz => k_mem); (case k3Qz => exact RowsOk.keys (by assumption)); (case k4Qz => assumption); (case k5Qz => assumption); k_whole))) | ((with_reducible show wpAny _ _ (call (Value.builtin "str.split") _) _ _ _); (k_here; (try dsimp only [List.cons_append, List.nil_append]); (with_reducible show wpAny _ _ (call (Value.builtin _) [Value.str _ _, Value.str _ _]) _ _ _); k_dflt (refine' txt_split ?k1Qz ?k2Qz ?k3Qz ?k4Qz ?_; (case k1Qz => k_asm); (case k2Qz => k_asm); (case k3Qz => rfl); (case k4Qz => omega); k_whole); intro D' h' ws k9 F' N' l1 hs9; (try k_lt l1); (try k_sweep))) | ((with_reducible show wpAny _ _ (subscriptTail _ (PySem.Expr.Slice _ _ _ _) (Value.ref _) (Value.ref _)) _ _ _); (k_here; (with_reducible show wpAny _ _ (subscriptTail _ (PySem.Expr.Slice _ _ none _) (Value.ref _) (Value.ref _)) _ _ _); k_dflt (refine' txt_slice (s := ⟨_, _, _, _, _⟩) ?FQz ?NQz ?mQz ?xQz ?zQz ?pQz ?qQz ?yQz ?_ ?sQz ?tQz; (case FQz => k_asm); (case NQz => k_asm); (case mQz => k_mem); (case xQz => assumption); (case zQz => omega); (case pQz => first | exact IsPart.none | exact IsPart.int _ _); (case qQz => first | exact IsPart.none | exact IsPart.int _ _); (case yQz => first | exact pick_upto1 (by assumption) | exact pick_run1 (by assumption) (by omega) | exact pick_from (by assumption) (by omega)); (case sQz => with_unfolding_all rfl); (case tQz => (intro _; with_unfolding_all rfl)); k_whole); intro D' h' ws F' N' l1 hs9; (try k_lt l1); (try k_sweep))) | ((with_reducible show wpAny _ _ (subscriptTail _ (PySem.Expr.Slice _ _ _ _) (Value.ref _) (Value.ref _)) _ _ _); (k_here; (with_reducible show wpAny _ _ (subscriptTail _ (PySem.Expr.Slice none none (some _) _) (Value.ref _) (Value.ref _)) _ _ _); k_dflt (refine' txt_rev (s := ⟨_, _, _, _, _⟩) ?FQz ?NQz ?mQz ?xQz ?zQz ?kQz ?_ ?sQz ?tQz; (case FQz => k_asm); (case NQz => k_asm); (case mQz => k_mem); (case xQz => assumption); (case zQz => omega); (case kQz => exact IsPart.int _ _); (case sQz => with_unfolding_all rfl); (case tQz => (intro _; with_unfolding_all rfl)); k_whole); intro D' h' ws F' N' l1 hs9; (try k_lt l1); (try k_sweep))) | ((with_reducible show wpAny _ _ (binaryOp Operator.Add (Value.ref _) (Value.ref _)) _ _ _); (k_here; (with_reducible show wpAny _ _ (binaryOp _ (Value.ref _) (Value.ref _)) _ _ _); k_dflt (refine' txt_add ?k1Qz ?k2Qz ?k3Qz ?k4Qz ?k5Qz ?k6Qz ?k7Qz ?_; (case k1Qz => k_asm); (case k2Qz => k_asm); (case k3Qz => k_mem); (case k4Qz => assumption); (case k5Qz => k_mem); (case k6Qz => assumption); (case k7Qz => omega); k_whole); intro D' h' F' N' l1 hs9; (try k_lt l1); (try k_sweep))) | ((with_reducible show wpAny _ _ (call (Value.builtin "list.insert") _) _ _ _); (k_here; (try dsimp only [List.cons_append, List.nil_append]); (with_reducible show wpAny _ _ (call (Value.builtin _) [Value.ref _, Value.int 0 _, Value.str _ _]) _ _ _); k_dflt (refine' txt_insert0 ?k1Qz ?k2Qz ?k3Qz ?k4Qz ?k5Qz ?_; (case k1Qz => k_asm); (case k2Qz => k_asm); (case k5Qz => k_upd); (case k3Qz => assumption); (case k4Qz => omega); k_whole); intro h' F' N' hs9; (try k_sweep))) | ((with_reducible show wpAny _ _ (call (Value.builtin "list.pop") _) _ _ _); (k_here; (try dsimp only [List.cons_append, List.nil_append]); (with_reducible show wpAny _ _ (call (Value.builtin _) [Value.ref _]) _ _ _); k_dflt (refine' txt_pop ?k1Qz ?k2Qz ?k3Qz ?k6Qz ?k4Qz ?k5Qz ?_; (case k1Qz => k_asm); (case k2Qz => k_asm); (case k5Qz => k_upd); (case k3Qz => assumption); (case k4Qz => omega); (case k6Qz => first | assumption | exact ne1 (by assumption) | exact ne2 (by assumption)); k_whole); intro h' t9 F' N' hs9; (try k_sweep))) | ((with_reducible show wpAny _ _ (call (Value.builtin "list.append") _) _ _ _); (k_here; (try dsimp only [List.cons_append, List.nil_append]); (with_reducible show wpAny _ _ (call (Value.builtin _) [Value.ref _, Value.str _ _]) _ _ _); k_dflt (refine' txt_append ?k1Qz ?k2Qz ?k3Qz ?k4Qz ?k5Qz ?_; (case k1Qz => k_asm); (case k2Qz => k_asm); (case k5Qz => k_upd); (case k3Qz => assumption); (case k4Qz => omega); k_whole); intro h' F' N' hs9; (try k_sweep))) | ((with_reducible show wpAny _ _ (call (Value.builtin "str.join") _) _ _ _); (k_here; (try dsimp only [List.cons_append, List.nil_append]); (with_reducible show wpAny _ _ (call (Value.builtin _) [Value.str _ _, Value.ref _]) _ _ _); k_dflt (refine' txt_join ?k1Qz ?k2Qz ?k3Qz ?k4Qz ?_; (case k1Qz => k_asm); (case k2Qz => k_mem); (case k3Qz => assumption); (case k4Qz => first | assumption | omega); k_whole); intro t9 k9)) | ((with_reducible show wpAny _ _ (call (Value.builtin "len") _) _ _ _); (k_here; (with_reducible show wpAny _ _ (call (Value.builtin _) [Value.ref _]) _ _ _); k_dflt (refine' txt_len ?k1Qz ?k2Qz ?k3Qz ?k4Qz ?_; (case k1Qz => k_asm); (case k2Qz => k_mem); (case k3Qz => assumption); (case k4Qz => omega); k_whole))) | ((with_reducible show wpAny _ _ (truthy (Value.ref _)) _ _ _); (k_here; k_dflt (refine' txt_truthy ?k1Qz ?k2Qz ?k3Qz ?k4Qz ?_; (case k1Qz => k_asm); (case k2Qz => k_mem); (case k3Qz => assumption); (case k4Qz => omega); k_whole))) | ((with_reducible show wpAny _ _ (subscriptTail _ _ (Value.ref _) (Value.int _ _)) _ _ _); (k_here; (with_reducible show wpAny _ _ (subscriptTail _ _ (Value.ref _) (Value.int (-1) _)) _ _ _); k_dflt (refine' txt_last ?k1Qz ?k2Qz ?k3Qz ?k4Qz ?_ ?k5Qz ?k6Qz; (case k1Qz => k_asm); (case k2Qz => k_mem); (case k3Qz => assumption); (case k4Qz => first | assumption | exact ne1 (by assumption) | exact ne2 (by assumption)); (case k5Qz => with_unfolding_all rfl); (case k6Qz => (intro _; with_unfolding_all rfl)); k_whole); intro t9)) | ((with_reducible show wpAny _ _ (binaryOp Operator.Add (Value.str _ _) (Value.str _ _)) _ _ _); ((with_reducible show wpAny _ _ (binaryOp Operator.Add (Value.str _ _) (Value.str _ _)) _ _ _); (refine SB.add (hsz := ?hszQz) ?_); (case hszQz => (rw [PySem.sizeLine_eq]; (try simp only [Str.length_append]); omega)); intro t9 k9)) | ((with_reducible show wpAny _ _ (call (Value.builtin "list.append") _) _ _ _); (k_here; (try dsimp only [List.cons_append, List.nil_append]); (with_reducible show wpAny _ _ (call (Value.builtin _) [Value.ref _, _]) _ _ _); k_dflt (refine' append_K ?k1Qz ?k2Qz ?k3Qz ?_ ?zQz; (case k1Qz => k_asm); (case k2Qz => k_asm); (case k3Qz => k_upd); (case zQz => size_fits); k_whole); intro h' F' N'; (try k_sweep))) | ((with_reducible show wpAny _ _ (execs [] _) _ _ _); (k_here; (with_reducible refine wpAny_execs_nil ?_); (try dsimp only))) | ((with_reducible show wpAny _ _ (execs (_ :: _) _) _ _ _); (k_here; (with_reducible refine wpAny_execs_cons ?_); (try dsimp only))) | walk1) <;> (try dsimp only)))
      all_goals (rename Fr _ _ _ _ => F9; rename News _ _ _ _ => N9; exact next _ _ _ _ _ (by omega) (fr_upd (fr_upd (fr_upd (fr_upd F9 rfl) rfl) rfl) rfl) (news_drop N9 (by first | exact fun p hp => hp | exact fun p hp => (.tail _ hp) | exact fun p hp => (.tail _ (.tail _ hp)) | exact fun p hp => (.tail _ (.tail _ (.tail _ hp))) | exact fun p hp => (.tail _ (.tail _ (.tail _ (.tail _ hp)))) | exact fun p hp => (.tail _ (.tail _ (.tail _ (.tail _ (.tail _ hp))))) | exact fun p hp => (.tail _ (.tail _ (.tail _ (.tail _ (.tail _ (.tail _ hp)))))) | exact fun p hp => (.tail _ (.tail _ (.tail _ (.tail _ (.tail _ (.tail _ (.tail _ hp))))))) | exact fun p hp => (.tail _ (.tail _ (.tail _ (.tail _ (.tail _ (.tail _ (.tail _ (.tail _ hp))))))))))))
theorem seg2 {w : World} {mean : ExcName → Option Value} {mg mb : Str → Option Value} {base h₀ : Heap} {L fa : Addr} {cd : Value} {m₀ : Str → Option Value} {s : Shared} {Q : Flow → Shared → Prop} {E : Value → Shared → Prop} (A0 : Around0 w mean mg mb base h₀) {Y : List Nat} {qs qb : List Row4} {NS : List Str} {d1 d2 D9 : Addr} {e1 e2 c9 : Nat} {ws9 : List Value} {oc : Obj} (K : Facts Y qs qb NS) (hs9 : StrsAre ws9 NS) (hoc : oc.data = .cell (some (.ref d1))) (lo1 : (d1 == sysModules) = false) (lo2 : (d2 == sysModules) = false) {p o : Str} {t1 t2 : Tok} (hm1 : unescT o qb = toldP NS) (ho : o.length ≤ 205) (htk : 1 ≤ s.toks)
    (F : Fr h₀ L s.heap (fun y => if y = Str.ofString "path" then some (.str p t1) else if y = Str.ofString "once" then some (.str o t2) else if y = Str.ofString "back" then some (.ref d2) else if y = Str.ofString "names" then some (.ref D9) else m₀ y)) (N : News h₀ L s.heap [(d2, dObj w qb e2), (d1, dObj w qs e1), (D9, W.listOf ws9.toArray c9), (L + 1, oc)])
    (next : ∀ (h' : Heap) (tk' : Nat) (m₁ : Str → Option Value) (t3 : Tok), 1 ≤ tk' → Fr h₀ L h' (fun y => if y = Str.ofString "whole" then some (.str (toldP NS) t3) else if y = Str.ofString "path" then some (.str p t1) else if y = Str.ofString "back" then some (.ref d2) else if y = Str.ofString "names" then some (.ref D9) else m₁ y) → News h₀ L h' [(d2, dObj w qb e2), (d1, dObj w qs e1), (D9, W.listOf ws9.toArray c9), (L + 1, oc)] → wpAny (model PySem.Challenge.rw_ij0051_01.row.prog w) (callerA.deeper (lawEnv L fa cd)) (execs (lawRec.body.drop 14) (lawEnv L fa cd)) Q E { s with heap := h', toks := tk' }) :
    wpAny (model PySem.Challenge.rw_ij0051_01.row.prog w) (callerA.deeper (lawEnv L fa cd)) (execs (lawRec.body.drop 12) (lawEnv L fa cd)) Q E s := by
  obtain ⟨B, X, T⟩ := A0
  revert X
  w_on
  w_strict (
    k_fill
    intro X
    unfold lawEnv lawRec recBy
    dsimp only [List.drop]
    obtain ⟨hp0, gn0, dr0, tk0, os0⟩ := s
    dsimp only at F N next htk ⊢
    obtain ⟨hY, hT, hq, hqb, hns0, hnsl, hnss, hok⟩ := K
    clear hok hY hT
    repeat' ((fail_if_success (with_reducible show wpAny _ _ (execs (PySem.Stmt.If (PySem.Expr.Compare (PySem.Expr.Name (PySem.Str.ofString "path") _) _ _ _) _ _ _ :: _) _) _ _ _)); ((first | ((with_reducible show wpAny _ _ (call (Value.ref 46) _) _ _ _); (k_here; (try simp only [List.append_nil]); (with_reducible show wpAny _ _ (call (Value.ref 46) _) _ _ _); k_dflt (refine' Tells.useS ?k1Qz ?k2Qz ?k3Qz ?k4Qz ?k5Qz ?k6Qz ?kcQz ?k7Qz ?k8Qz ?k9Qz ?_; (case k1Qz => k_asm); (case k2Qz => k_asm); (case k3Qz => k_asm); (case k4Qz => k_asm); (case k5Qz => k_asm); (case kcQz => exact unescape_ok _ _ _ _ _ (by k_mem) (by assumption) (by assumption) (by omega)); (case k6Qz => first | exact rfl | assumption); (case k7Qz => ktr_room); (case k8Qz => ktr_units); (case k9Qz => first | exact Nat.zero_le _ | ((try dsimp only); omega)); k_whole; intro t9 h9 tk9 F9 N9 htk9))) | ((with_reducible show wpAny _ _ (call (Value.ref 180) _) _ _ _); (k_here; (try simp only [List.append_nil]); (with_reducible show wpAny _ _ (call (Value.ref 180) _) _ _ _); k_dflt (refine' Tells.useS ?k1Qz ?k2Qz ?k3Qz ?k4Qz ?k5Qz ?k6Qz ?kcQz ?k7Qz ?k8Qz ?k9Qz ?_; (case k1Qz => k_asm); (case k2Qz => k_asm); (case k3Qz => k_asm); (case k4Qz => k_asm); (case k5Qz => k_asm); (case kcQz => exact Tells.one (told_ok _ _ _ _ (by assumption) (by k_mem) (by assumption) (by omega))); (case k6Qz => first | exact rfl | assumption); (case k7Qz => ktr_room); (case k8Qz => ktr_units); (case k9Qz => first | exact Nat.zero_le _ | ((try dsimp only); omega)); k_whole; intro t9 h9 tk9 F9 N9 htk9))) | ((with_reducible show wpAny _ _ (compareOp CmpOp.NotEq (Value.bool _) (Value.bool _)) _ _ _); (k_here; k_dflt (refine' ne_bool_no ?k1Qz ?_; (case k1Qz => first | assumption | exact rfl); k_whole))) | ((with_reducible show wpAny _ _ (compareOp CmpOp.NotEq (Value.str _ _) (Value.str _ _)) _ _ _); (k_here; k_dflt (refine' ne_str_no ?k1Qz ?_; (case k1Qz => assumption); k_whole))) | ((with_reducible show StarOf _ _ _ (Value.ref _) _ _); (k_here; k_dflt (refine' txt_star ?k1Qz ?k2Qz ?k3Qz ?k4Qz ?k5Qz ?_; (case k1Qz => k_asm); (case k2Qz => k_asm); (case k3Qz => k_mem); (case k4Qz => assumption); (case k5Qz => omega); k_whole); intro h' F' N'; (try k_sweep); (try simp only [List.nil_append, List.cons_append, List.append_nil]))) | ((with_reducible show wpAny _ _ (subscriptTail _ _ (Value.ref _) (Value.int _ _)) _ _ _); (k_here; (with_reducible show wpAny _ _ (subscriptTail _ _ (Value.ref _) (Value.int 0 _)) _ _ _); k_dflt (refine' txt_first ?k1Qz ?k2Qz ?k3Qz ?k4Qz ?_ ?k5Qz ?k6Qz; (case k1Qz => k_asm); (case k2Qz => k_mem); (case k3Qz => assumption); (case k4Qz => assumption); (case k5Qz => with_unfolding_all rfl); (case k6Qz => (intro _; with_unfolding_all rfl)); k_whole); intro t9)) | ((with_reducible show wpAny _ _ (compareOp CmpOp.NotIn (Value.str _ _) (Value.ref _)) _ _ _); (k_here; k_dflt (refine' row_notin ?k1Qz ?k2Qz ?k3Qz ?k4Qz ?k5Qz ?_; (case k1Qz => k_asm); (case k2Qz => k_mem); (case k3Qz => exact RowsOk.keys (by assumption)); (case k4Qz => assumption); (case k5Qz => assumption); k_whole))) | ((with_reducible show wpAny _ _ (call (Value.builtin "str.split") _) _ _ _); (k_here; (try dsimp only [List.cons_append, List.nil_append]); (with_reducible show wpAny _ _ (call (Value.builtin _) [Value.str _ _, Value.str _ _]) _ _ _); k_dflt (refine' txt_split ?k1Qz ?k2Qz ?k3Qz ?k4Qz ?_; (case k1Qz => k_asm); (case k2Qz => k_asm); (case k3Qz => rfl); (case k4Qz => omega); k_whole); intro D' h' ws k9 F' N' l1 hs9; (try k_lt l1); (try k_sweep))) | ((with_reducible show wpAny _ _ (subscriptTail _ (PySem.Expr.Slice _ _ _ _) (Value.ref _) (Value.ref _)) _ _ _); (k_here; (with_reducible show wpAny _ _ (subscriptTail _ (PySem.Expr.Slice _ _ none _) (Value.ref _) (Value.ref _)) _ _ _); k_dflt (refine' txt_slice (s := ⟨_, _, _, _, _⟩) ?FQz ?NQz ?mQz ?xQz ?zQz ?pQz ?qQz ?yQz ?_ ?sQz ?tQz; (case FQz => k_asm); (case NQz => k_asm); (case mQz => k_mem); (case xQz => assumption); (case zQz => omega); (case pQz => first | exact IsPart.none | exact IsPart.int _ _); (case qQz => first | exact IsPart.none | exact IsPart.int _ _); (case yQz => first | exact pick_upto1 (by assumption) | exact pick_run1 (by assumption) (by omega) | exact pick_from (by assumption) (by omega)); (case sQz => with_unfolding_all rfl); (case tQz => (intro _; with_unfolding_all rfl)); k_whole); intro D' h' ws F' N' l1 hs9; (try k_lt l1); (try k_sweep))) | ((with_reducible show wpAny _ _ (subscriptTail _ (PySem.Expr.Slice _ _ _ _) (Value.ref _) (Value.ref _)) _ _ _); (k_here; (with_reducible show wpAny _ _ (subscriptTail _ (PySem.Expr.Slice none none (some _) _) (Value.ref _) (Value.ref _)) _ _ _); k_dflt (refine' txt_rev (s := ⟨_, _, _, _, _⟩) ?FQz ?NQz ?mQz ?xQz ?zQz ?kQz ?_ ?sQz ?tQz; (case FQz => k_asm); (case NQz => k_asm); (case mQz => k_mem); (case xQz => assumption); (case zQz => omega); (case kQz => exact IsPart.int _ _); (case sQz => with_unfolding_all rfl); (case tQz => (intro _; with_unfolding_all rfl)); k_whole); intro D' h' ws F' N' l1 hs9; (try k_lt l1); (try k_sweep))) | ((with_reducible show wpAny _ _ (binaryOp Operator.Add (Value.ref _) (Value.ref _)) _ _ _); (k_here; (with_reducible show wpAny _ _ (binaryOp _ (Value.ref _) (Value.ref _)) _ _ _); k_dflt (refine' txt_add ?k1Qz ?k2Qz ?k3Qz ?k4Qz ?k5Qz ?k6Qz ?k7Qz ?_; (case k1Qz => k_asm); (case k2Qz => k_asm); (case k3Qz => k_mem); (case k4Qz => assumption); (case k5Qz => k_mem); (case k6Qz => assumption); (case k7Qz => omega); k_whole); intro D' h' F' N' l1 hs9; (try k_lt l1); (try k_sweep))) | ((with_reducible show wpAny _ _ (call (Value.builtin "list.insert") _) _ _ _); (k_here; (try dsimp only [List.cons_append, List.nil_append]); (with_reducible show wpAny _ _ (call (Value.builtin _) [Value.ref _, Value.int 0 _, Value.str _ _]) _ _ _); k_dflt (refine' txt_insert0 ?k1Qz ?k2Qz ?k3Qz ?k4Qz ?k5Qz ?_; (case k1Qz => k_asm); (case k2Qz => k_asm); (case k5Qz => k_upd); (case k3Qz => assumption); (case k4Qz => omega); k_whole); intro h' F' N' hs9; (try k_sweep))) | ((with_reducible show wpAny _ _ (call (Value.builtin "list.pop") _) _ _ _); (k_here; (try dsimp only [List.cons_append, List.nil_append]); (with_reducible show wpAny _ _ (call (Value.builtin _) [Value.ref _]) _ _ _); k_dflt (refine' txt_pop ?k1Qz ?k2Qz ?k3Qz ?k6Qz ?k4Qz ?k5Qz ?_; (case k1Qz => k_asm); (case k2Qz => k_asm); (case k5Qz => k_upd); (case k3Qz => assumption); (case k4Qz => omega); (case k6Qz => first | assumption | exact ne1 (by assumption) | exact ne2 (by assumption)); k_whole); intro h' t9 F' N' hs9; (try k_sweep))) | ((with_reducible show wpAny _ _ (call (Value.builtin "list.append") _) _ _ _); (k_here; (try dsimp only [List.cons_append, List.nil_append]); (with_reducible show wpAny _ _ (call (Value.builtin _) [Value.ref _, Value.str _ _]) _ _ _); k_dflt (refine' txt_append ?k1Qz ?k2Qz ?k3Qz ?k4Qz ?k5Qz ?_; (case k1Qz => k_asm); (case k2Qz => k_asm); (case k5Qz => k_upd); (case k3Qz => assumption); (case k4Qz => omega); k_whole); intro h' F' N' hs9; (try k_sweep))) | ((with_reducible show wpAny _ _ (call (Value.builtin "str.join") _) _ _ _); (k_here; (try dsimp only [List.cons_append, List.nil_append]); (with_reducible show wpAny _ _ (call (Value.builtin _) [Value.str _ _, Value.ref _]) _ _ _); k_dflt (refine' txt_join ?k1Qz ?k2Qz ?k3Qz ?k4Qz ?_; (case k1Qz => k_asm); (case k2Qz => k_mem); (case k3Qz => assumption); (case k4Qz => first | assumption | omega); k_whole); intro t9 k9)) | ((with_reducible show wpAny _ _ (call (Value.builtin "len") _) _ _ _); (k_here; (with_reducible show wpAny _ _ (call (Value.builtin _) [Value.ref _]) _ _ _); k_dflt (refine' txt_len ?k1Qz ?k2Qz ?k3Qz ?k4Qz ?_; (case k1Qz => k_asm); (case k2Qz => k_mem); (case k3Qz => assumption); (case k4Qz => omega); k_whole))) | ((with_reducible show wpAny _ _ (truthy (Value.ref _)) _ _ _); (k_here; k_dflt (refine' txt_truthy ?k1Qz ?k2Qz ?k3Qz ?k4Qz ?_; (case k1Qz => k_asm); (case k2Qz => k_mem); (case k3Qz => assumption); (case k4Qz => omega); k_whole))) | ((with_reducible show wpAny _ _ (subscriptTail _ _ (Value.ref _) (Value.int _ _)) _ _ _); (k_here; (with_reducible show wpAny _ _ (subscriptTail _ _ (Value.ref _) (Value.int (-1) _)) _ _ _); k_dflt (refine' txt_last ?k1Qz ?k2Qz ?k3Qz ?k4Qz ?_ ?k5Qz ?k6Qz; (case k1Qz => k_asm); (case k2Qz => k_mem); (case k3Qz => assumption); (case k4Qz => first | assumption | exact ne1 (by assumption) | exact ne2 (by assumption)); (case k5Qz => with_unfolding_all rfl); (case k6Qz => (intro _; with_unfolding_all rfl)); k_whole); intro t9)) | ((with_reducible show wpAny _ _ (binaryOp Operator.Add (Value.str _ _) (Value.str _ _)) _ _ _); ((with_reducible show wpAny _ _ (binaryOp Operator.Add (Value.str _ _) (Value.str _ _)) _ _ _); (refine SB.add (hsz := ?hszQz) ?_); (case hszQz => (rw [PySem.sizeLine_eq]; (try simp only [Str.length_append]); omega)); intro t9 k9)) | ((with_reducible show wpAny _ _ (call (Value.builtin "list.append") _) _ _ _); (k_here; (try dsimp only [List.cons_append, List.nil_append]); (with_reducible show wpAny _ _ (call (Value.builtin _) [Value.ref _, _]) _ _ _); k_dflt (refine' append_K ?k1Qz ?k2Qz ?k3Qz ?_ ?zQz; (case k1Qz => k_asm); (case k2Qz => k_asm); (case k3Qz => k_upd); (case zQz => size_fits); k_whole); intro h' F' N'; (try k_sweep))) | ((with_reducible show wpAny _ _ (execs [] _) _ _ _); (k_here; (with_reducible refine wpAny_execs_nil ?_); (try dsimp only))) | ((with_reducible show wpAny _ _ (execs (_ :: _) _) _ _ _); (k_here; (with_reducible refine wpAny_execs_cons ?_); (try dsimp only))) | walk1) <;> (try dsimp only)))
    all_goals (rename Fr _ _ _ _ => F9; rename News _ _ _ _ => N9; exact next _ _ _ _ (by omega) (fr_upd (fr_upd (fr_upd (fr_upd F9 rfl) rfl) rfl) rfl) (news_drop N9 (by first | exact fun p hp => hp | exact fun p hp => (.tail _ hp) | exact fun p hp => (.tail _ (.tail _ hp)) | exact fun p hp => (.tail _ (.tail _ (.tail _ hp))) | exact fun p hp => (.tail _ (.tail _ (.tail _ (.tail _ hp)))) | exact fun p hp => (.tail _ (.tail _ (.tail _ (.tail _ (.tail _ hp))))) | exact fun p hp => (.tail _ (.tail _ (.tail _ (.tail _ (.tail _ (.tail _ hp)))))) | exact fun p hp => (.tail _ (.tail _ (.tail _ (.tail _ (.tail _ (.tail _ (.tail _ hp))))))) | exact fun p hp => (.tail _ (.tail _ (.tail _ (.tail _ (.tail _ (.tail _ (.tail _ (.tail _ hp))))))))))))
theorem seg3 {w : World} {mean : ExcName → Option Value} {mg mb : Str → Option Value} {base h₀ : Heap} {L fa : Addr} {cd : Value} {m₀ : Str → Option Value} {s : Shared} {Q : Flow → Shared → Prop} {E : Value → Shared → Prop} (A0 : Around0 w mean mg mb base h₀) {Y : List Nat} {qs qb : List Row4} {NS : List Str} {d1 d2 D9 : Addr} {e1 e2 c9 : Nat} {ws9 : List Value} {oc : Obj} (K : Facts Y qs qb NS) (hs9 : StrsAre ws9 NS) (hoc : oc.data = .cell (some (.ref d1))) (lo1 : (d1 == sysModules) = false) (lo2 : (d2 == sysModules) = false) {p : Str} {t1 t3 : Tok} (hm2 : p = toldP (NS.map (fun x => imgT x qs))) (htk : 1 ≤ s.toks)
    (F : Fr h₀ L s.heap (fun y => if y = Str.ofString "whole" then some (.str (toldP NS) t3) else if y = Str.ofString "path" then some (.str p t1) else if y = Str.ofString "back" then some (.ref d2) else if y = Str.ofString "names" then some (.ref D9) else m₀ y)) (N : News h₀ L s.heap [(d2, dObj w qb e2), (d1, dObj w qs e1), (D9, W.listOf ws9.toArray c9), (L + 1, oc)])
    (next : ∀ (h' : Heap) (tk' : Nat) (m₁ : Str → Option Value), 0 ≤ tk' → Fr h₀ L h' (fun y => if y = Str.ofString "whole" then some (.str (toldP NS) t3) else if y = Str.ofString "path" then some (.str p t1) else if y = Str.ofString "back" then some (.ref d2) else if y = Str.ofString "names" then some (.ref D9) else m₁ y) → News h₀ L h' [(d2, dObj w qb e2), (d1, dObj w qs e1), (D9, W.listOf ws9.toArray c9), (L + 1, oc)] → wpAny (model PySem.Challenge.rw_ij0051_01.row.prog w) (callerA.deeper (lawEnv L fa cd)) (execs (lawRec.body.drop 15) (lawEnv L fa cd)) Q E { s with heap := h', toks := tk' }) :
    wpAny (model PySem.Challenge.rw_ij0051_01.row.prog w) (callerA.deeper (lawEnv L fa cd)) (execs (lawRec.body.drop 14) (lawEnv L fa cd)) Q E s := by
  obtain ⟨B, X, T⟩ := A0
  revert X
  w_on
  w_strict (
    k_fill
    intro X
    unfold lawEnv lawRec recBy
    dsimp only [List.drop]
    obtain ⟨hp0, gn0, dr0, tk0, os0⟩ := s
    dsimp only at F N next htk ⊢
    obtain ⟨hY, hT, hq, hqb, hns0, hnsl, hnss, hok⟩ := K
    have hil := img_row_len hq NS
    have hin : (NS.map (fun x => imgT x qs)).length ≤ 21 := by rw [List.length_map]; exact hnsl
    have hi0 : NS.map (fun x => imgT x qs) ≠ [] := by simpa using hns0
    clear hok hY hT
    repeat' ((fail_if_success (with_reducible show LCg.CompSrc _ _ _ _ _ _ _ _ _ _ _ _ _ _)); ((first | ((with_reducible show wpAny _ _ (call (Value.ref 173) _) _ _ _); (k_here; (try simp only [List.append_nil]); (with_reducible show wpAny _ _ (call (Value.ref 173) _) _ _ _); k_dflt (refine' Tells.useS ?k1Qz ?k2Qz ?k3Qz ?k4Qz ?k5Qz ?k6Qz ?kcQz ?k7Qz ?k8Qz ?k9Qz ?_; (case k1Qz => k_asm); (case k2Qz => k_asm); (case k3Qz => k_asm); (case k4Qz => k_asm); (case k5Qz => k_asm); (case kcQz => exact image_ok _ _ _ _ _ (by k_mem) (by assumption) (by assumption) (by omega)); (case k6Qz => first | exact rfl | assumption); (case k7Qz => ktr_room); (case k8Qz => ktr_units); (case k9Qz => first | exact Nat.zero_le _ | ((try dsimp only); omega)); k_whole; intro t9 h9 tk9 F9 N9 htk9))) | ((with_reducible show wpAny _ _ (call (Value.ref 180) _) _ _ _); (k_here; (try simp only [List.append_nil]); (with_reducible show wpAny _ _ (call (Value.ref 180) _) _ _ _); k_dflt (refine' Tells.useS ?k1Qz ?k2Qz ?k3Qz ?k4Qz ?k5Qz ?k6Qz ?kcQz ?k7Qz ?k8Qz ?k9Qz ?_; (case k1Qz => k_asm); (case k2Qz => k_asm); (case k3Qz => k_asm); (case k4Qz => k_asm); (case k5Qz => k_asm); (case kcQz => exact told_ok _ _ _ _ (by assumption) (by k_mem) (by assumption) (by omega)); (case k6Qz => first | exact rfl | assumption); (case k7Qz => ktr_room); (case k8Qz => ktr_units); (case k9Qz => first | exact Nat.zero_le _ | ((try dsimp only); omega)); k_whole; intro t9 h9 tk9 F9 N9 htk9))) | ((with_reducible show wpAny _ _ (compareOp CmpOp.NotEq (Value.bool _) (Value.bool _)) _ _ _); (k_here; k_dflt (refine' ne_bool_no ?k1Qz ?_; (case k1Qz => first | assumption | exact rfl); k_whole))) | ((with_reducible show wpAny _ _ (compareOp CmpOp.NotEq (Value.str _ _) (Value.str _ _)) _ _ _); (k_here; k_dflt (refine' ne_str_no ?k1Qz ?_; (case k1Qz => assumption); k_whole))) | ((with_reducible show StarOf _ _ _ (Value.ref _) _ _); (k_here; k_dflt (refine' txt_star ?k1Qz ?k2Qz ?k3Qz ?k4Qz ?k5Qz ?_; (case k1Qz => k_asm); (case k2Qz => k_asm); (case k3Qz => k_mem); (case k4Qz => assumption); (case k5Qz => omega); k_whole); intro h' F' N'; (try k_sweep); (try simp only [List.nil_append, List.cons_append, List.append_nil]))) | ((with_reducible show wpAny _ _ (subscriptTail _ _ (Value.ref _) (Value.int _ _)) _ _ _); (k_here; (with_reducible show wpAny _ _ (subscriptTail _ _ (Value.ref _) (Value.int 0 _)) _ _ _); k_dflt (refine' txt_first ?k1Qz ?k2Qz ?k3Qz ?k4Qz ?_ ?k5Qz ?k6Qz; (case k1Qz => k_asm); (case k2Qz => k_mem); (case k3Qz => assumption); (case k4Qz => assumption); (case k5Qz => with_unfolding_all rfl); (case k6Qz => (intro _; with_unfolding_all rfl)); k_whole); intro t9)) | ((with_reducible show wpAny _ _ (compareOp CmpOp.NotIn (Value.str _ _) (Value.ref _)) _ _ _); (k_here; k_dflt (refine' row_notin ?k1Qz ?k2Qz ?k3Qz ?k4Qz ?k5Qz ?_; (case k1Qz => k_asm); (case k2Qz => k_mem); (case k3Qz => exact RowsOk.keys (by assumption)); (case k4Qz => assumption); (case k5Qz => assumption); k_whole))) | ((with_reducible show wpAny _ _ (call (Value.builtin "str.split") _) _ _ _); (k_here; (try dsimp only [List.cons_append, List.nil_append]); (with_reducible show wpAny _ _ (call (Value.builtin _) [Value.str _ _, Value.str _ _]) _ _ _); k_dflt (refine' txt_split ?k1Qz ?k2Qz ?k3Qz ?k4Qz ?_; (case k1Qz => k_asm); (case k2Qz => k_asm); (case k3Qz => rfl); (case k4Qz => omega); k_whole); intro D' h' ws k9 F' N' l1 hs9; (try k_lt l1); (try k_sweep))) | ((with_reducible show wpAny _ _ (subscriptTail _ (PySem.Expr.Slice _ _ _ _) (Value.ref _) (Value.ref _)) _ _ _); (k_here; (with_reducible show wpAny _ _ (subscriptTail _ (PySem.Expr.Slice _ _ none _) (Value.ref _) (Value.ref _)) _ _ _); k_dflt (refine' txt_slice (s := ⟨_, _, _, _, _⟩) ?FQz ?NQz ?mQz ?xQz ?zQz ?pQz ?qQz ?yQz ?_ ?sQz ?tQz; (case FQz => k_asm); (case NQz => k_asm); (case mQz => k_mem); (case xQz => assumption); (case zQz => omega); (case pQz => first | exact IsPart.none | exact IsPart.int _ _); (case qQz => first | exact IsPart.none | exact IsPart.int _ _); (case yQz => first | exact pick_upto1 (by assumption) | exact pick_run1 (by assumption) (by omega) | exact pick_from (by assumption) (by omega)); (case sQz => with_unfolding_all rfl); (case tQz => (intro _; with_unfolding_all rfl)); k_whole); intro D' h' ws F' N' l1 hs9; (try k_lt l1); (try k_sweep))) | ((with_reducible show wpAny _ _ (subscriptTail _ (PySem.Expr.Slice _ _ _ _) (Value.ref _) (Value.ref _)) _ _ _); (k_here; (with_reducible show wpAny _ _ (subscriptTail _ (PySem.Expr.Slice none none (some _) _) (Value.ref _) (Value.ref _)) _ _ _); k_dflt (refine' txt_rev (s := ⟨_, _, _, _, _⟩) ?FQz ?NQz ?mQz ?xQz ?zQz ?kQz ?_ ?sQz ?tQz; (case FQz => k_asm); (case NQz => k_asm); (case mQz => k_mem); (case xQz => assumption); (case zQz => omega); (case kQz => exact IsPart.int _ _); (case sQz => with_unfolding_all rfl); (case tQz => (intro _; with_unfolding_all rfl)); k_whole); intro D' h' ws F' N' l1 hs9; (try k_lt l1); (try k_sweep))) | ((with_reducible show wpAny _ _ (binaryOp Operator.Add (Value.ref _) (Value.ref _)) _ _ _); (k_here; (with_reducible show wpAny _ _ (binaryOp _ (Value.ref _) (Value.ref _)) _ _ _); k_dflt (refine' txt_add ?k1Qz ?k2Qz ?k3Qz ?k4Qz ?k5Qz ?k6Qz ?k7Qz ?_; (case k1Qz => k_asm); (case k2Qz => k_asm); (case k3Qz => k_mem); (case k4Qz => assumption); (case k5Qz => k_mem); (case k6Qz => assumption); (case k7Qz => omega); k_whole); intro D' h' F' N' l1 hs9; (try k_lt l1); (try k_sweep))) | ((with_reducible show wpAny _ _ (call (Value.builtin "list.insert") _) _ _ _); (k_here; (try dsimp only [List.cons_append, List.nil_append]); (with_reducible show wpAny _ _ (call (Value.builtin _) [Value.ref _, Value.int 0 _, Value.str _ _]) _ _ _); k_dflt (refine' txt_insert0 ?k1Qz ?k2Qz ?k3Qz ?k4Qz ?k5Qz ?_; (case k1Qz => k_asm); (case k2Qz => k_asm); (case k5Qz => k_upd); (case k3Qz => assumption); (case k4Qz => omega); k_whole); intro h' F' N' hs9; (try k_sweep))) | ((with_reducible show wpAny _ _ (call (Value.builtin "list.pop") _) _ _ _); (k_here; (try dsimp only [List.cons_append, List.nil_append]); (with_reducible show wpAny _ _ (call (Value.builtin _) [Value.ref _]) _ _ _); k_dflt (refine' txt_pop ?k1Qz ?k2Qz ?k3Qz ?k6Qz ?k4Qz ?k5Qz ?_; (case k1Qz => k_asm); (case k2Qz => k_asm); (case k5Qz => k_upd); (case k3Qz => assumption); (case k4Qz => omega); (case k6Qz => first | assumption | exact ne1 (by assumption) | exact ne2 (by assumption)); k_whole); intro h' t9 F' N' hs9; (try k_sweep))) | ((with_reducible show wpAny _ _ (call (Value.builtin "list.append") _) _ _ _); (k_here; (try dsimp only [List.cons_append, List.nil_append]); (with_reducible show wpAny _ _ (call (Value.builtin _) [Value.ref _, Value.str _ _]) _ _ _); k_dflt (refine' txt_append ?k1Qz ?k2Qz ?k3Qz ?k4Qz ?k5Qz ?_; (case k1Qz => k_asm); (case k2Qz => k_asm); (case k5Qz => k_upd); (case k3Qz => assumption); (case k4Qz => omega); k_whole); intro h' F' N' hs9; (try k_sweep))) | ((with_reducible show wpAny _ _ (call (Value.builtin "str.join") _) _ _ _); (k_here; (try dsimp only [List.cons_append, List.nil_append]); (with_reducible show wpAny _ _ (call (Value.builtin _) [Value.str _ _, Value.ref _]) _ _ _); k_dflt (refine' txt_join ?k1Qz ?k2Qz ?k3Qz ?k4Qz ?_; (case k1Qz => k_asm); (case k2Qz => k_mem); (case k3Qz => assumption); (case k4Qz => first | assumption | omega); k_whole); intro t9 k9)) | ((with_reducible show wpAny _ _ (call (Value.builtin "len") _) _ _ _); (k_here; (with_reducible show wpAny _ _ (call (Value.builtin _) [Value.ref _]) _ _ _); k_dflt (refine' txt_len ?k1Qz ?k2Qz ?k3Qz ?k4Qz ?_; (case k1Qz => k_asm); (case k2Qz => k_mem); (case k3Qz => assumption); (case k4Qz => omega); k_whole))) | ((with_reducible show wpAny _ _ (truthy (Value.ref _)) _ _ _); (k_here; k_dflt (refine' txt_truthy ?k1Qz ?k2Qz ?k3Qz ?k4Qz ?_; (case k1Qz => k_asm); (case k2Qz => k_mem); (case k3Qz => assumption); (case k4Qz => omega); k_whole))) | ((with_reducible show wpAny _ _ (subscriptTail _ _ (Value.ref _) (Value.int _ _)) _ _ _); (k_here; (with_reducible show wpAny _ _ (subscriptTail _ _ (Value.ref _) (Value.int (-1) _)) _ _ _); k_dflt (refine' txt_last ?k1Qz ?k2Qz ?k3Qz ?k4Qz ?_ ?k5Qz ?k6Qz; (case k1Qz => k_asm); (case k2Qz => k_mem); (case k3Qz => assumption); (case k4Qz => first | assumption | exact ne1 (by assumption) | exact ne2 (by assumption)); (case k5Qz => with_unfolding_all rfl); (case k6Qz => (intro _; with_unfolding_all rfl)); k_whole); intro t9)) | ((with_reducible show wpAny _ _ (binaryOp Operator.Add (Value.str _ _) (Value.str _ _)) _ _ _); ((with_reducible show wpAny _ _ (binaryOp Operator.Add (Value.str _ _) (Value.str _ _)) _ _ _); (refine SB.add (hsz := ?hszQz) ?_); (case hszQz => (rw [PySem.sizeLine_eq]; (try simp only [Str.length_append]); omega)); intro t9 k9)) | ((with_reducible show wpAny _ _ (call (Value.builtin "list.append") _) _ _ _); (k_here; (try dsimp only [List.cons_append, List.nil_append]); (with_reducible show wpAny _ _ (call (Value.builtin _) [Value.ref _, _]) _ _ _); k_dflt (refine' append_K ?k1Qz ?k2Qz ?k3Qz ?_ ?zQz; (case k1Qz => k_asm); (case k2Qz => k_asm); (case k3Qz => k_upd); (case zQz => size_fits); k_whole); intro h' F' N'; (try k_sweep))) | ((with_reducible show wpAny _ _ (execs [] _) _ _ _); (k_here; (with_reducible refine wpAny_execs_nil ?_); (try dsimp only))) | ((with_reducible show wpAny _ _ (execs (_ :: _) _) _ _ _); (k_here; (with_reducible refine wpAny_execs_cons ?_); (try dsimp only))) | walk1) <;> (try dsimp only)))
    rename News _ _ _ _ => N8
    rename Fr _ _ _ _ => F8
    refine LCg.CompSrc.ledger rfl F8 N8 (.tail _ (.tail _ (.head _))) (by rw [List.size_toArray, hs9.len_eq, PySem.sizeLine_eq]; omega) fun g => compRest_of (J := fun i ys => StrsAre ys ((NS.map (fun x => imgT x qs)).take i)) ?_ ?_ _ 0 [] (Nat.zero_add _) .nil
    · rintro i v ys I oI C oC D m₂ h tk E' hi hv hJ hC hx F9 N9 off ne
      (try clear F8); (try clear N8)
      obtain ⟨nm, tn, rfl, hni, hnm⟩ := strs_get hs9 hv
      have hnl := len_le_sum hnm
      dsimp only at F9 N9 ⊢
      repeat' ((fail_if_success (with_reducible show wpAny _ _ (pyIter _) _ _ _)); ((first | ((with_reducible show wpAny _ _ (call (Value.ref 173) _) _ _ _); (k_here; (try simp only [List.append_nil]); (with_reducible show wpAny _ _ (call (Value.ref 173) _) _ _ _); k_dflt (refine' Tells.useS ?k1Qz ?k2Qz ?k3Qz ?k4Qz ?k5Qz ?k6Qz ?kcQz ?k7Qz ?k8Qz ?k9Qz ?_; (case k1Qz => k_asm); (case k2Qz => k_asm); (case k3Qz => k_asm); (case k4Qz => k_asm); (case k5Qz => k_asm); (case kcQz => exact image_ok _ _ _ _ _ (by k_mem) (by assumption) (by assumption) (by omega)); (case k6Qz => first | exact rfl | assumption); (case k7Qz => ktr_room); (case k8Qz => ktr_units); (case k9Qz => first | exact Nat.zero_le _ | ((try dsimp only); omega)); k_whole; intro t9 h9 tk9 F9 N9 htk9))) | ((with_reducible show wpAny _ _ (call (Value.ref 180) _) _ _ _); (k_here; (try simp only [List.append_nil]); (with_reducible show wpAny _ _ (call (Value.ref 180) _) _ _ _); k_dflt (refine' Tells.useS ?k1Qz ?k2Qz ?k3Qz ?k4Qz ?k5Qz ?k6Qz ?kcQz ?k7Qz ?k8Qz ?k9Qz ?_; (case k1Qz => k_asm); (case k2Qz => k_asm); (case k3Qz => k_asm); (case k4Qz => k_asm); (case k5Qz => k_asm); (case kcQz => exact told_ok _ _ _ _ (by assumption) (by k_mem) (by assumption) (by omega)); (case k6Qz => first | exact rfl | assumption); (case k7Qz => ktr_room); (case k8Qz => ktr_units); (case k9Qz => first | exact Nat.zero_le _ | ((try dsimp only); omega)); k_whole; intro t9 h9 tk9 F9 N9 htk9))) | ((with_reducible show wpAny _ _ (compareOp CmpOp.NotEq (Value.bool _) (Value.bool _)) _ _ _); (k_here; k_dflt (refine' ne_bool_no ?k1Qz ?_; (case k1Qz => first | assumption | exact rfl); k_whole))) | ((with_reducible show wpAny _ _ (compareOp CmpOp.NotEq (Value.str _ _) (Value.str _ _)) _ _ _); (k_here; k_dflt (refine' ne_str_no ?k1Qz ?_; (case k1Qz => assumption); k_whole))) | ((with_reducible show StarOf _ _ _ (Value.ref _) _ _); (k_here; k_dflt (refine' txt_star ?k1Qz ?k2Qz ?k3Qz ?k4Qz ?k5Qz ?_; (case k1Qz => k_asm); (case k2Qz => k_asm); (case k3Qz => k_mem); (case k4Qz => assumption); (case k5Qz => omega); k_whole); intro h' F' N'; (try k_sweep); (try simp only [List.nil_append, List.cons_append, List.append_nil]))) | ((with_reducible show wpAny _ _ (subscriptTail _ _ (Value.ref _) (Value.int _ _)) _ _ _); (k_here; (with_reducible show wpAny _ _ (subscriptTail _ _ (Value.ref _) (Value.int 0 _)) _ _ _); k_dflt (refine' txt_first ?k1Qz ?k2Qz ?k3Qz ?k4Qz ?_ ?k5Qz ?k6Qz; (case k1Qz => k_asm); (case k2Qz => k_mem); (case k3Qz => assumption); (case k4Qz => assumption); (case k5Qz => with_unfolding_all rfl); (case k6Qz => (intro _; with_unfolding_all rfl)); k_whole); intro t9)) | ((with_reducible show wpAny _ _ (compareOp CmpOp.NotIn (Value.str _ _) (Value.ref _)) _ _ _); (k_here; k_dflt (refine' row_notin ?k1Qz ?k2Qz ?k3Qz ?k4Qz ?k5Qz ?_; (case k1Qz => k_asm); (case k2Qz => k_mem); (case k3Qz => exact RowsOk.keys (by assumption)); (case k4Qz => assumption); (case k5Qz => assumption); k_whole))) | ((with_reducible show wpAny _ _ (call (Value.builtin "str.split") _) _ _ _); (k_here; (try dsimp only [List.cons_append, List.nil_append]); (with_reducible show wpAny _ _ (call (Value.builtin _) [Value.str _ _, Value.str _ _]) _ _ _); k_dflt (refine' txt_split ?k1Qz ?k2Qz ?k3Qz ?k4Qz ?_; (case k1Qz => k_asm); (case k2Qz => k_asm); (case k3Qz => rfl); (case k4Qz => omega); k_whole); intro D' h' ws k9 F' N' l1 hs9; (try k_lt l1); (try k_sweep))) | ((with_reducible show wpAny _ _ (subscriptTail _ (PySem.Expr.Slice _ _ _ _) (Value.ref _) (Value.ref _)) _ _ _); (k_here; (with_reducible show wpAny _ _ (subscriptTail _ (PySem.Expr.Slice _ _ none _) (Value.ref _) (Value.ref _)) _ _ _); k_dflt (refine' txt_slice (s := ⟨_, _, _, _, _⟩) ?FQz ?NQz ?mQz ?xQz ?zQz ?pQz ?qQz ?yQz ?_ ?sQz ?tQz; (case FQz => k_asm); (case NQz => k_asm); (case mQz => k_mem); (case xQz => assumption); (case zQz => omega); (case pQz => first | exact IsPart.none | exact IsPart.int _ _); (case qQz => first | exact IsPart.none | exact IsPart.int _ _); (case yQz => first | exact pick_upto1 (by assumption) | exact pick_run1 (by assumption) (by omega) | exact pick_from (by assumption) (by omega)); (case sQz => with_unfolding_all rfl); (case tQz => (intro _; with_unfolding_all rfl)); k_whole); intro D' h' ws F' N' l1 hs9; (try k_lt l1); (try k_sweep))) | ((with_reducible show wpAny _ _ (subscriptTail _ (PySem.Expr.Slice _ _ _ _) (Value.ref _) (Value.ref _)) _ _ _); (k_here; (with_reducible show wpAny _ _ (subscriptTail _ (PySem.Expr.Slice none none (some _) _) (Value.ref _) (Value.ref _)) _ _ _); k_dflt (refine' txt_rev (s := ⟨_, _, _, _, _⟩) ?FQz ?NQz ?mQz ?xQz ?zQz ?kQz ?_ ?sQz ?tQz; (case FQz => k_asm); (case NQz => k_asm); (case mQz => k_mem); (case xQz => assumption); (case zQz => omega); (case kQz => exact IsPart.int _ _); (case sQz => with_unfolding_all rfl); (case tQz => (intro _; with_unfolding_all rfl)); k_whole); intro D' h' ws F' N' l1 hs9; (try k_lt l1); (try k_sweep))) | ((with_reducible show wpAny _ _ (binaryOp Operator.Add (Value.ref _) (Value.ref _)) _ _ _); (k_here; (with_reducible show wpAny _ _ (binaryOp _ (Value.ref _) (Value.ref _)) _ _ _); k_dflt (refine' txt_add ?k1Qz ?k2Qz ?k3Qz ?k4Qz ?k5Qz ?k6Qz ?k7Qz ?_; (case k1Qz => k_asm); (case k2Qz => k_asm); (case k3Qz => k_mem); (case k4Qz => assumption); (case k5Qz => k_mem); (case k6Qz => assumption); (case k7Qz => omega); k_whole); intro D' h' F' N' l1 hs9; (try k_lt l1); (try k_sweep))) | ((with_reducible show wpAny _ _ (call (Value.builtin "list.insert") _) _ _ _); (k_here; (try dsimp only [List.cons_append, List.nil_append]); (with_reducible show wpAny _ _ (call (Value.builtin _) [Value.ref _, Value.int 0 _, Value.str _ _]) _ _ _); k_dflt (refine' txt_insert0 ?k1Qz ?k2Qz ?k3Qz ?k4Qz ?k5Qz ?_; (case k1Qz => k_asm); (case k2Qz => k_asm); (case k5Qz => k_upd); (case k3Qz => assumption); (case k4Qz => omega); k_whole); intro h' F' N' hs9; (try k_sweep))) | ((with_reducible show wpAny _ _ (call (Value.builtin "list.pop") _) _ _ _); (k_here; (try dsimp only [List.cons_append, List.nil_append]); (with_reducible show wpAny _ _ (call (Value.builtin _) [Value.ref _]) _ _ _); k_dflt (refine' txt_pop ?k1Qz ?k2Qz ?k3Qz ?k6Qz ?k4Qz ?k5Qz ?_; (case k1Qz => k_asm); (case k2Qz => k_asm); (case k5Qz => k_upd); (case k3Qz => assumption); (case k4Qz => omega); (case k6Qz => first | assumption | exact ne1 (by assumption) | exact ne2 (by assumption)); k_whole); intro h' t9 F' N' hs9; (try k_sweep))) | ((with_reducible show wpAny _ _ (call (Value.builtin "list.append") _) _ _ _); (k_here; (try dsimp only [List.cons_append, List.nil_append]); (with_reducible show wpAny _ _ (call (Value.builtin _) [Value.ref _, Value.str _ _]) _ _ _); k_dflt (refine' txt_append ?k1Qz ?k2Qz ?k3Qz ?k4Qz ?k5Qz ?_; (case k1Qz => k_asm); (case k2Qz => k_asm); (case k5Qz => k_upd); (case k3Qz => assumption); (case k4Qz => omega); k_whole); intro h' F' N' hs9; (try k_sweep))) | ((with_reducible show wpAny _ _ (call (Value.builtin "str.join") _) _ _ _); (k_here; (try dsimp only [List.cons_append, List.nil_append]); (with_reducible show wpAny _ _ (call (Value.builtin _) [Value.str _ _, Value.ref _]) _ _ _); k_dflt (refine' txt_join ?k1Qz ?k2Qz ?k3Qz ?k4Qz ?_; (case k1Qz => k_asm); (case k2Qz => k_mem); (case k3Qz => assumption); (case k4Qz => first | assumption | omega); k_whole); intro t9 k9)) | ((with_reducible show wpAny _ _ (call (Value.builtin "len") _) _ _ _); (k_here; (with_reducible show wpAny _ _ (call (Value.builtin _) [Value.ref _]) _ _ _); k_dflt (refine' txt_len ?k1Qz ?k2Qz ?k3Qz ?k4Qz ?_; (case k1Qz => k_asm); (case k2Qz => k_mem); (case k3Qz => assumption); (case k4Qz => omega); k_whole))) | ((with_reducible show wpAny _ _ (truthy (Value.ref _)) _ _ _); (k_here; k_dflt (refine' txt_truthy ?k1Qz ?k2Qz ?k3Qz ?k4Qz ?_; (case k1Qz => k_asm); (case k2Qz => k_mem); (case k3Qz => assumption); (case k4Qz => omega); k_whole))) | ((with_reducible show wpAny _ _ (subscriptTail _ _ (Value.ref _) (Value.int _ _)) _ _ _); (k_here; (with_reducible show wpAny _ _ (subscriptTail _ _ (Value.ref _) (Value.int (-1) _)) _ _ _); k_dflt (refine' txt_last ?k1Qz ?k2Qz ?k3Qz ?k4Qz ?_ ?k5Qz ?k6Qz; (case k1Qz => k_asm); (case k2Qz => k_mem); (case k3Qz => assumption); (case k4Qz => first | assumption | exact ne1 (by assumption) | exact ne2 (by assumption)); (case k5Qz => with_unfolding_all rfl); (case k6Qz => (intro _; with_unfolding_all rfl)); k_whole); intro t9)) | ((with_reducible show wpAny _ _ (binaryOp Operator.Add (Value.str _ _) (Value.str _ _)) _ _ _); ((with_reducible show wpAny _ _ (binaryOp Operator.Add (Value.str _ _) (Value.str _ _)) _ _ _); (refine SB.add (hsz := ?hszQz) ?_); (case hszQz => (rw [PySem.sizeLine_eq]; (try simp only [Str.length_append]); omega)); intro t9 k9)) | ((with_reducible show wpAny _ _ (call (Value.builtin "list.append") _) _ _ _); (k_here; (try dsimp only [List.cons_append, List.nil_append]); (with_reducible show wpAny _ _ (call (Value.builtin _) [Value.ref _, _]) _ _ _); k_dflt (refine' append_K ?k1Qz ?k2Qz ?k3Qz ?_ ?zQz; (case k1Qz => k_asm); (case k2Qz => k_asm); (case k3Qz => k_upd); (case zQz => size_fits); k_whole); intro h' F' N'; (try k_sweep))) | ((with_reducible show wpAny _ _ (execs [] _) _ _ _); (k_here; (with_reducible refine wpAny_execs_nil ?_); (try dsimp only))) | ((with_reducible show wpAny _ _ (execs (_ :: _) _) _ _ _); (k_here; (with_reducible refine wpAny_execs_cons ?_); (try dsimp only))) | walk1) <;> (try dsimp only)))
      k_unfold
      rename Fr _ _ _ _ => F10
      rename News _ _ _ _ => N10
      exact LCg.CompEnd.intro F10 N10 _ (fun p hp => hp) off (.inr ⟨_, .tail _ (.tail _ (.head _)), rfl, _, rfl⟩) ⟨rfl, by rw [map_take hni]; exact snoc_strs hJ _ _⟩
    · intro ys hJ
      (try clear F8); (try clear N8)
      replace hJ : StrsAre ys (NS.map (fun x => imgT x qs)) := by rw [List.take_of_length_le (by rw [List.size_toArray, hs9.len_eq, List.length_map]; exact Nat.le_refl _)] at hJ; exact hJ
      intro DW hW tkW FW NW offW
      dsimp only at FW NW ⊢
      unfold LCg.lst at NW
      repeat' ((fail_if_success (with_reducible show wpAny _ _ (execs (PySem.Stmt.Assign [PySem.Expr.Name (PySem.Str.ofString "front") _] _ _ :: _) _) _ _ _)); ((first | ((with_reducible show wpAny _ _ (call (Value.ref 173) _) _ _ _); (k_here; (try simp only [List.append_nil]); (with_reducible show wpAny _ _ (call (Value.ref 173) _) _ _ _); k_dflt (refine' Tells.useS ?k1Qz ?k2Qz ?k3Qz ?k4Qz ?k5Qz ?k6Qz ?kcQz ?k7Qz ?k8Qz ?k9Qz ?_; (case k1Qz => k_asm); (case k2Qz => k_asm); (case k3Qz => k_asm); (case k4Qz => k_asm); (case k5Qz => k_asm); (case kcQz => exact image_ok _ _ _ _ _ (by k_mem) (by assumption) (by assumption) (by omega)); (case k6Qz => first | exact rfl | assumption); (case k7Qz => ktr_room); (case k8Qz => ktr_units); (case k9Qz => first | exact Nat.zero_le _ | ((try dsimp only); omega)); k_whole; intro t9 h9 tk9 F9 N9 htk9))) | ((with_reducible show wpAny _ _ (call (Value.ref 180) _) _ _ _); (k_here; (try simp only [List.append_nil]); (with_reducible show wpAny _ _ (call (Value.ref 180) _) _ _ _); k_dflt (refine' Tells.useS ?k1Qz ?k2Qz ?k3Qz ?k4Qz ?k5Qz ?k6Qz ?kcQz ?k7Qz ?k8Qz ?k9Qz ?_; (case k1Qz => k_asm); (case k2Qz => k_asm); (case k3Qz => k_asm); (case k4Qz => k_asm); (case k5Qz => k_asm); (case kcQz => exact told_ok _ _ _ _ (by assumption) (by k_mem) (by assumption) (by omega)); (case k6Qz => first | exact rfl | assumption); (case k7Qz => ktr_room); (case k8Qz => ktr_units); (case k9Qz => first | exact Nat.zero_le _ | ((try dsimp only); omega)); k_whole; intro t9 h9 tk9 F9 N9 htk9))) | ((with_reducible show wpAny _ _ (compareOp CmpOp.NotEq (Value.bool _) (Value.bool _)) _ _ _); (k_here; k_dflt (refine' ne_bool_no ?k1Qz ?_; (case k1Qz => first | assumption | exact rfl); k_whole))) | ((with_reducible show wpAny _ _ (compareOp CmpOp.NotEq (Value.str _ _) (Value.str _ _)) _ _ _); (k_here; k_dflt (refine' ne_str_no ?k1Qz ?_; (case k1Qz => assumption); k_whole))) | ((with_reducible show StarOf _ _ _ (Value.ref _) _ _); (k_here; k_dflt (refine' txt_star ?k1Qz ?k2Qz ?k3Qz ?k4Qz ?k5Qz ?_; (case k1Qz => k_asm); (case k2Qz => k_asm); (case k3Qz => k_mem); (case k4Qz => assumption); (case k5Qz => omega); k_whole); intro h' F' N'; (try k_sweep); (try simp only [List.nil_append, List.cons_append, List.append_nil]))) | ((with_reducible show wpAny _ _ (subscriptTail _ _ (Value.ref _) (Value.int _ _)) _ _ _); (k_here; (with_reducible show wpAny _ _ (subscriptTail _ _ (Value.ref _) (Value.int 0 _)) _ _ _); k_dflt (refine' txt_first ?k1Qz ?k2Qz ?k3Qz ?k4Qz ?_ ?k5Qz ?k6Qz; (case k1Qz => k_asm); (case k2Qz => k_mem); (case k3Qz => assumption); (case k4Qz => assumption); (case k5Qz => with_unfolding_all rfl); (case k6Qz => (intro _; with_unfolding_all rfl)); k_whole); intro t9)) | ((with_reducible show wpAny _ _ (compareOp CmpOp.NotIn (Value.str _ _) (Value.ref _)) _ _ _); (k_here; k_dflt (refine' row_notin ?k1Qz ?k2Qz ?k3Qz ?k4Qz ?k5Qz ?_; (case k1Qz => k_asm); (case k2Qz => k_mem); (case k3Qz => exact RowsOk.keys (by assumption)); (case k4Qz => assumption); (case k5Qz => assumption); k_whole))) | ((with_reducible show wpAny _ _ (call (Value.builtin "str.split") _) _ _ _); (k_here; (try dsimp only [List.cons_append, List.nil_append]); (with_reducible show wpAny _ _ (call (Value.builtin _) [Value.str _ _, Value.str _ _]) _ _ _); k_dflt (refine' txt_split ?k1Qz ?k2Qz ?k3Qz ?k4Qz ?_; (case k1Qz => k_asm); (case k2Qz => k_asm); (case k3Qz => rfl); (case k4Qz => omega); k_whole); intro D' h' ws k9 F' N' l1 hs9; (try k_lt l1); (try k_sweep))) | ((with_reducible show wpAny _ _ (subscriptTail _ (PySem.Expr.Slice _ _ _ _) (Value.ref _) (Value.ref _)) _ _ _); (k_here; (with_reducible show wpAny _ _ (subscriptTail _ (PySem.Expr.Slice _ _ none _) (Value.ref _) (Value.ref _)) _ _ _); k_dflt (refine' txt_slice (s := ⟨_, _, _, _, _⟩) ?FQz ?NQz ?mQz ?xQz ?zQz ?pQz ?qQz ?yQz ?_ ?sQz ?tQz; (case FQz => k_asm); (case NQz => k_asm); (case mQz => k_mem); (case xQz => assumption); (case zQz => omega); (case pQz => first | exact IsPart.none | exact IsPart.int _ _); (case qQz => first | exact IsPart.none | exact IsPart.int _ _); (case yQz => first | exact pick_upto1 (by assumption) | exact pick_run1 (by assumption) (by omega) | exact pick_from (by assumption) (by omega)); (case sQz => with_unfolding_all rfl); (case tQz => (intro _; with_unfolding_all rfl)); k_whole); intro D' h' ws F' N' l1 hs9; (try k_lt l1); (try k_sweep))) | ((with_reducible show wpAny _ _ (subscriptTail _ (PySem.Expr.Slice _ _ _ _) (Value.ref _) (Value.ref _)) _ _ _); (k_here; (with_reducible show wpAny _ _ (subscriptTail _ (PySem.Expr.Slice none none (some _) _) (Value.ref _) (Value.ref _)) _ _ _); k_dflt (refine' txt_rev (s := ⟨_, _, _, _, _⟩) ?FQz ?NQz ?mQz ?xQz ?zQz ?kQz ?_ ?sQz ?tQz; (case FQz => k_asm); (case NQz => k_asm); (case mQz => k_mem); (case xQz => assumption); (case zQz => omega); (case kQz => exact IsPart.int _ _); (case sQz => with_unfolding_all rfl); (case tQz => (intro _; with_unfolding_all rfl)); k_whole); intro D' h' ws F' N' l1 hs9; (try k_lt l1); (try k_sweep))) | ((with_reducible show wpAny _ _ (binaryOp Operator.Add (Value.ref _) (Value.ref _)) _ _ _); (k_here; (with_reducible show wpAny _ _ (binaryOp _ (Value.ref _) (Value.ref _)) _ _ _); k_dflt (refine' txt_add ?k1Qz ?k2Qz ?k3Qz ?k4Qz ?k5Qz ?k6Qz ?k7Qz ?_; (case k1Qz => k_asm); (case k2Qz => k_asm); (case k3Qz => k_mem); (case k4Qz => assumption); (case k5Qz => k_mem); (case k6Qz => assumption); (case k7Qz => omega); k_whole); intro D' h' F' N' l1 hs9; (try k_lt l1); (try k_sweep))) | ((with_reducible show wpAny _ _ (call (Value.builtin "list.insert") _) _ _ _); (k_here; (try dsimp only [List.cons_append, List.nil_append]); (with_reducible show wpAny _ _ (call (Value.builtin _) [Value.ref _, Value.int 0 _, Value.str _ _]) _ _ _); k_dflt (refine' txt_insert0 ?k1Qz ?k2Qz ?k3Qz ?k4Qz ?k5Qz ?_; (case k1Qz => k_asm); (case k2Qz => k_asm); (case k5Qz => k_upd); (case k3Qz => assumption); (case k4Qz => omega); k_whole); intro h' F' N' hs9; (try k_sweep))) | ((with_reducible show wpAny _ _ (call (Value.builtin "list.pop") _) _ _ _); (k_here; (try dsimp only [List.cons_append, List.nil_append]); (with_reducible show wpAny _ _ (call (Value.builtin _) [Value.ref _]) _ _ _); k_dflt (refine' txt_pop ?k1Qz ?k2Qz ?k3Qz ?k6Qz ?k4Qz ?k5Qz ?_; (case k1Qz => k_asm); (case k2Qz => k_asm); (case k5Qz => k_upd); (case k3Qz => assumption); (case k4Qz => omega); (case k6Qz => first | assumption | exact ne1 (by assumption) | exact ne2 (by assumption)); k_whole); intro h' t9 F' N' hs9; (try k_sweep))) | ((with_reducible show wpAny _ _ (call (Value.builtin "list.append") _) _ _ _); (k_here; (try dsimp only [List.cons_append, List.nil_append]); (with_reducible show wpAny _ _ (call (Value.builtin _) [Value.ref _, Value.str _ _]) _ _ _); k_dflt (refine' txt_append ?k1Qz ?k2Qz ?k3Qz ?k4Qz ?k5Qz ?_; (case k1Qz => k_asm); (case k2Qz => k_asm); (case k5Qz => k_upd); (case k3Qz => assumption); (case k4Qz => omega); k_whole); intro h' F' N' hs9; (try k_sweep))) | ((with_reducible show wpAny _ _ (call (Value.builtin "str.join") _) _ _ _); (k_here; (try dsimp only [List.cons_append, List.nil_append]); (with_reducible show wpAny _ _ (call (Value.builtin _) [Value.str _ _, Value.ref _]) _ _ _); k_dflt (refine' txt_join ?k1Qz ?k2Qz ?k3Qz ?k4Qz ?_; (case k1Qz => k_asm); (case k2Qz => k_mem); (case k3Qz => assumption); (case k4Qz => first | assumption | omega); k_whole); intro t9 k9)) | ((with_reducible show wpAny _ _ (call (Value.builtin "len") _) _ _ _); (k_here; (with_reducible show wpAny _ _ (call (Value.builtin _) [Value.ref _]) _ _ _); k_dflt (refine' txt_len ?k1Qz ?k2Qz ?k3Qz ?k4Qz ?_; (case k1Qz => k_asm); (case k2Qz => k_mem); (case k3Qz => assumption); (case k4Qz => omega); k_whole))) | ((with_reducible show wpAny _ _ (truthy (Value.ref _)) _ _ _); (k_here; k_dflt (refine' txt_truthy ?k1Qz ?k2Qz ?k3Qz ?k4Qz ?_; (case k1Qz => k_asm); (case k2Qz => k_mem); (case k3Qz => assumption); (case k4Qz => omega); k_whole))) | ((with_reducible show wpAny _ _ (subscriptTail _ _ (Value.ref _) (Value.int _ _)) _ _ _); (k_here; (with_reducible show wpAny _ _ (subscriptTail _ _ (Value.ref _) (Value.int (-1) _)) _ _ _); k_dflt (refine' txt_last ?k1Qz ?k2Qz ?k3Qz ?k4Qz ?_ ?k5Qz ?k6Qz; (case k1Qz => k_asm); (case k2Qz => k_mem); (case k3Qz => assumption); (case k4Qz => first | assumption | exact ne1 (by assumption) | exact ne2 (by assumption)); (case k5Qz => with_unfolding_all rfl); (case k6Qz => (intro _; with_unfolding_all rfl)); k_whole); intro t9)) | ((with_reducible show wpAny _ _ (binaryOp Operator.Add (Value.str _ _) (Value.str _ _)) _ _ _); ((with_reducible show wpAny _ _ (binaryOp Operator.Add (Value.str _ _) (Value.str _ _)) _ _ _); (refine SB.add (hsz := ?hszQz) ?_); (case hszQz => (rw [PySem.sizeLine_eq]; (try simp only [Str.length_append]); omega)); intro t9 k9)) | ((with_reducible show wpAny _ _ (call (Value.builtin "list.append") _) _ _ _); (k_here; (try dsimp only [List.cons_append, List.nil_append]); (with_reducible show wpAny _ _ (call (Value.builtin _) [Value.ref _, _]) _ _ _); k_dflt (refine' append_K ?k1Qz ?k2Qz ?k3Qz ?_ ?zQz; (case k1Qz => k_asm); (case k2Qz => k_asm); (case k3Qz => k_upd); (case zQz => size_fits); k_whole); intro h' F' N'; (try k_sweep))) | ((with_reducible show wpAny _ _ (execs [] _) _ _ _); (k_here; (with_reducible refine wpAny_execs_nil ?_); (try dsimp only))) | ((with_reducible show wpAny _ _ (execs (_ :: _) _) _ _ _); (k_here; (with_reducible refine wpAny_execs_cons ?_); (try dsimp only))) | walk1) <;> (try dsimp only)))
      all_goals (rename Fr _ _ _ _ => F9; rename News _ _ _ _ => N9; exact next _ _ _ (Nat.zero_le _) (fr_upd (fr_upd (fr_upd (fr_upd F9 rfl) rfl) rfl) rfl) (news_drop N9 (by first | exact fun p hp => hp | exact fun p hp => (.tail _ hp) | exact fun p hp => (.tail _ (.tail _ hp)) | exact fun p hp => (.tail _ (.tail _ (.tail _ hp))) | exact fun p hp => (.tail _ (.tail _ (.tail _ (.tail _ hp)))) | exact fun p hp => (.tail _ (.tail _ (.tail _ (.tail _ (.tail _ hp))))) | exact fun p hp => (.tail _ (.tail _ (.tail _ (.tail _ (.tail _ (.tail _ hp)))))) | exact fun p hp => (.tail _ (.tail _ (.tail _ (.tail _ (.tail _ (.tail _ (.tail _ hp))))))) | exact fun p hp => (.tail _ (.tail _ (.tail _ (.tail _ (.tail _ (.tail _ (.tail _ (.tail _ hp))))))))))))
theorem mem_but4 {α : Type} (a b c d : α) : ∀ p ∈ [c, a, b, d], p ∈ [a, b, c, d] := by
  intro p hp
  simp only [List.mem_cons, List.not_mem_nil, or_false] at hp ⊢
  rcases hp with h | h | h | h <;> simp [h]
theorem mem_but5 {α : Type} (a b c d e : α) : ∀ p ∈ [a, b, c, e], p ∈ [a, b, c, d, e] := by
  intro p hp
  simp only [List.mem_cons, List.not_mem_nil, or_false] at hp ⊢
  rcases hp with h | h | h | h <;> simp [h]
theorem seg4 {w : World} {mean : ExcName → Option Value} {mg mb : Str → Option Value} {base h₀ : Heap} {L fa : Addr} {cd : Value} {m₀ : Str → Option Value} {s : Shared} {Q : Flow → Shared → Prop} {E : Value → Shared → Prop} (A0 : Around0 w mean mg mb base h₀) {Y : List Nat} {qs qb : List Row4} {NS : List Str} {d1 d2 D9 : Addr} {e1 e2 c9 : Nat} {ws9 : List Value} {oc : Obj} (K : Facts Y qs qb NS) (hs9 : StrsAre ws9 NS) (hoc : oc.data = .cell (some (.ref d1))) (lo1 : (d1 == sysModules) = false) (lo2 : (d2 == sysModules) = false) {p wh : Str} {t1 t3 : Tok} (hwl : wh.length ≤ 100)
    (F : Fr h₀ L s.heap (fun y => if y = Str.ofString "whole" then some (.str wh t3) else if y = Str.ofString "path" then some (.str p t1) else if y = Str.ofString "back" then some (.ref d2) else if y = Str.ofString "names" then some (.ref D9) else m₀ y)) (N : News h₀ L s.heap [(d2, dObj w qb e2), (d1, dObj w qs e1), (D9, W.listOf ws9.toArray c9), (L + 1, oc)])
    (next : ∀ (h' : Heap) (tk' : Nat) (m₁ : Str → Option Value) (f : Str) (tf : Tok) (DP : Addr) (vsP : List Value) (cP : Nat) (ps : List Str), StrsAre vsP ps → ((47 ∈ Y ∧ f = Str.ofString "" ∧ ps = NS) ∨ (47 ∉ Y ∧ f = frontP wh ∧ ps = piecesP wh)) → Fr h₀ L h' (fun y => if y = Str.ofString "front" then some (.str f tf) else if y = Str.ofString "pieces" then some (.ref DP) else if y = Str.ofString "path" then some (.str p t1) else if y = Str.ofString "back" then some (.ref d2) else m₁ y) → News h₀ L h' [(DP, W.listOf vsP.toArray cP), (d2, dObj w qb e2), (d1, dObj w qs e1), (L + 1, oc)] → wpAny (model PySem.Challenge.rw_ij0051_01.row.prog w) (callerA.deeper (lawEnv L fa cd)) (execs (lawRec.body.drop 18) (lawEnv L fa cd)) Q E { s with heap := h', toks := tk' }) :
    wpAny (model PySem.Challenge.rw_ij0051_01.row.prog w) (callerA.deeper (lawEnv L fa cd)) (execs (lawRec.body.drop 15) (lawEnv L fa cd)) Q E s := by
  obtain ⟨B, X, T⟩ := A0
  revert X
  w_on
  w_strict (
    k_fill
    intro X
    unfold lawEnv lawRec recBy
    dsimp only [List.drop]
    obtain ⟨hp0, gn0, dr0, tk0, os0⟩ := s
    dsimp only at F N next ⊢
    obtain ⟨hY, hT, hq, hqb, hns0, hnsl, hnss, hok⟩ := K
    have hg1 := rowGet_tb hT 47
    rw [show one 47 = Str.ofString "/" by decide] at hg1
    clear hok hY hT
    by_cases hb47 : 47 ∈ Y
    · rw [decide_eq_true hb47] at hg1
      repeat' ((fail_if_success (with_reducible show wpAny _ _ (execs (PySem.Stmt.If (PySem.Expr.Compare (PySem.Expr.Call _ _ _ _) _ _ _) _ _ _ :: _) _) _ _ _)); ((first | ((with_reducible show wpAny _ _ (compareOp CmpOp.NotEq (Value.bool _) (Value.bool _)) _ _ _); (k_here; k_dflt (refine' ne_bool_no ?k1Qz ?_; (case k1Qz => first | assumption | exact rfl); k_whole))) | ((with_reducible show wpAny _ _ (compareOp CmpOp.NotEq (Value.str _ _) (Value.str _ _)) _ _ _); (k_here; k_dflt (refine' ne_str_no ?k1Qz ?_; (case k1Qz => assumption); k_whole))) | ((with_reducible show StarOf _ _ _ (Value.ref _) _ _); (k_here; k_dflt (refine' txt_star ?k1Qz ?k2Qz ?k3Qz ?k4Qz ?k5Qz ?_; (case k1Qz => k_asm); (case k2Qz => k_asm); (case k3Qz => k_mem); (case k4Qz => assumption); (case k5Qz => omega); k_whole); intro h' F' N'; (try k_sweep); (try simp only [List.nil_append, List.cons_append, List.append_nil]))) | ((with_reducible show wpAny _ _ (subscriptTail _ _ (Value.ref _) (Value.int _ _)) _ _ _); (k_here; (with_reducible show wpAny _ _ (subscriptTail _ _ (Value.ref _) (Value.int 0 _)) _ _ _); k_dflt (refine' txt_first ?k1Qz ?k2Qz ?k3Qz ?k4Qz ?_ ?k5Qz ?k6Qz; (case k1Qz => k_asm); (case k2Qz => k_mem); (case k3Qz => assumption); (case k4Qz => assumption); (case k5Qz => with_unfolding_all rfl); (case k6Qz => (intro _; with_unfolding_all rfl)); k_whole); intro t9)) | ((with_reducible show wpAny _ _ (compareOp CmpOp.NotIn (Value.str _ _) (Value.ref _)) _ _ _); (k_here; k_dflt (refine' row_notin ?k1Qz ?k2Qz ?k3Qz ?k4Qz ?k5Qz ?_; (case k1Qz => k_asm); (case k2Qz => k_mem); (case k3Qz => exact RowsOk.keys (by assumption)); (case k4Qz => assumption); (case k5Qz => assumption); k_whole))) | ((with_reducible show wpAny _ _ (call (Value.builtin "str.split") _) _ _ _); (k_here; (try dsimp only [List.cons_append, List.nil_append]); (with_reducible show wpAny _ _ (call (Value.builtin _) [Value.str _ _, Value.str _ _]) _ _ _); k_dflt (refine' txt_split ?k1Qz ?k2Qz ?k3Qz ?k4Qz ?_; (case k1Qz => k_asm); (case k2Qz => k_asm); (case k3Qz => rfl); (case k4Qz => omega); k_whole); intro D' h' ws k9 F' N' l1 hs9; (try k_lt l1); (try k_sweep))) | ((with_reducible show wpAny _ _ (subscriptTail _ (PySem.Expr.Slice _ _ _ _) (Value.ref _) (Value.ref _)) _ _ _); (k_here; (with_reducible show wpAny _ _ (subscriptTail _ (PySem.Expr.Slice _ _ none _) (Value.ref _) (Value.ref _)) _ _ _); k_dflt (refine' txt_slice (s := ⟨_, _, _, _, _⟩) ?FQz ?NQz ?mQz ?xQz ?zQz ?pQz ?qQz ?yQz ?_ ?sQz ?tQz; (case FQz => k_asm); (case NQz => k_asm); (case mQz => k_mem); (case xQz => assumption); (case zQz => omega); (case pQz => first | exact IsPart.none | exact IsPart.int _ _); (case qQz => first | exact IsPart.none | exact IsPart.int _ _); (case yQz => first | exact pick_upto1 (by assumption) | exact pick_run1 (by assumption) (by omega) | exact pick_from (by assumption) (by omega)); (case sQz => with_unfolding_all rfl); (case tQz => (intro _; with_unfolding_all rfl)); k_whole); intro D' h' ws F' N' l1 hs9; (try k_lt l1); (try k_sweep))) | ((with_reducible show wpAny _ _ (subscriptTail _ (PySem.Expr.Slice _ _ _ _) (Value.ref _) (Value.ref _)) _ _ _); (k_here; (with_reducible show wpAny _ _ (subscriptTail _ (PySem.Expr.Slice none none (some _) _) (Value.ref _) (Value.ref _)) _ _ _); k_dflt (refine' txt_rev (s := ⟨_, _, _, _, _⟩) ?FQz ?NQz ?mQz ?xQz ?zQz ?kQz ?_ ?sQz ?tQz; (case FQz => k_asm); (case NQz => k_asm); (case mQz => k_mem); (case xQz => assumption); (case zQz => omega); (case kQz => exact IsPart.int _ _); (case sQz => with_unfolding_all rfl); (case tQz => (intro _; with_unfolding_all rfl)); k_whole); intro D' h' ws F' N' l1 hs9; (try k_lt l1); (try k_sweep))) | ((with_reducible show wpAny _ _ (binaryOp Operator.Add (Value.ref _) (Value.ref _)) _ _ _); (k_here; (with_reducible show wpAny _ _ (binaryOp _ (Value.ref _) (Value.ref _)) _ _ _); k_dflt (refine' txt_add ?k1Qz ?k2Qz ?k3Qz ?k4Qz ?k5Qz ?k6Qz ?k7Qz ?_; (case k1Qz => k_asm); (case k2Qz => k_asm); (case k3Qz => k_mem); (case k4Qz => assumption); (case k5Qz => k_mem); (case k6Qz => assumption); (case k7Qz => omega); k_whole); intro D' h' F' N' l1 hs9; (try k_lt l1); (try k_sweep))) | ((with_reducible show wpAny _ _ (call (Value.builtin "list.insert") _) _ _ _); (k_here; (try dsimp only [List.cons_append, List.nil_append]); (with_reducible show wpAny _ _ (call (Value.builtin _) [Value.ref _, Value.int 0 _, Value.str _ _]) _ _ _); k_dflt (refine' txt_insert0 ?k1Qz ?k2Qz ?k3Qz ?k4Qz ?k5Qz ?_; (case k1Qz => k_asm); (case k2Qz => k_asm); (case k5Qz => k_upd); (case k3Qz => assumption); (case k4Qz => omega); k_whole); intro h' F' N' hs9; (try k_sweep))) | ((with_reducible show wpAny _ _ (call (Value.builtin "list.pop") _) _ _ _); (k_here; (try dsimp only [List.cons_append, List.nil_append]); (with_reducible show wpAny _ _ (call (Value.builtin _) [Value.ref _]) _ _ _); k_dflt (refine' txt_pop ?k1Qz ?k2Qz ?k3Qz ?k6Qz ?k4Qz ?k5Qz ?_; (case k1Qz => k_asm); (case k2Qz => k_asm); (case k5Qz => k_upd); (case k3Qz => assumption); (case k4Qz => omega); (case k6Qz => first | assumption | exact ne1 (by assumption) | exact ne2 (by assumption)); k_whole); intro h' t9 F' N' hs9; (try k_sweep))) | ((with_reducible show wpAny _ _ (call (Value.builtin "list.append") _) _ _ _); (k_here; (try dsimp only [List.cons_append, List.nil_append]); (with_reducible show wpAny _ _ (call (Value.builtin _) [Value.ref _, Value.str _ _]) _ _ _); k_dflt (refine' txt_append ?k1Qz ?k2Qz ?k3Qz ?k4Qz ?k5Qz ?_; (case k1Qz => k_asm); (case k2Qz => k_asm); (case k5Qz => k_upd); (case k3Qz => assumption); (case k4Qz => omega); k_whole); intro h' F' N' hs9; (try k_sweep))) | ((with_reducible show wpAny _ _ (call (Value.builtin "str.join") _) _ _ _); (k_here; (try dsimp only [List.cons_append, List.nil_append]); (with_reducible show wpAny _ _ (call (Value.builtin _) [Value.str _ _, Value.ref _]) _ _ _); k_dflt (refine' txt_join ?k1Qz ?k2Qz ?k3Qz ?k4Qz ?_; (case k1Qz => k_asm); (case k2Qz => k_mem); (case k3Qz => assumption); (case k4Qz => first | assumption | omega); k_whole); intro t9 k9)) | ((with_reducible show wpAny _ _ (call (Value.builtin "len") _) _ _ _); (k_here; (with_reducible show wpAny _ _ (call (Value.builtin _) [Value.ref _]) _ _ _); k_dflt (refine' txt_len ?k1Qz ?k2Qz ?k3Qz ?k4Qz ?_; (case k1Qz => k_asm); (case k2Qz => k_mem); (case k3Qz => assumption); (case k4Qz => omega); k_whole))) | ((with_reducible show wpAny _ _ (truthy (Value.ref _)) _ _ _); (k_here; k_dflt (refine' txt_truthy ?k1Qz ?k2Qz ?k3Qz ?k4Qz ?_; (case k1Qz => k_asm); (case k2Qz => k_mem); (case k3Qz => assumption); (case k4Qz => omega); k_whole))) | ((with_reducible show wpAny _ _ (subscriptTail _ _ (Value.ref _) (Value.int _ _)) _ _ _); (k_here; (with_reducible show wpAny _ _ (subscriptTail _ _ (Value.ref _) (Value.int (-1) _)) _ _ _); k_dflt (refine' txt_last ?k1Qz ?k2Qz ?k3Qz ?k4Qz ?_ ?k5Qz ?k6Qz; (case k1Qz => k_asm); (case k2Qz => k_mem); (case k3Qz => assumption); (case k4Qz => first | assumption | exact ne1 (by assumption) | exact ne2 (by assumption)); (case k5Qz => with_unfolding_all rfl); (case k6Qz => (intro _; with_unfolding_all rfl)); k_whole); intro t9)) | ((with_reducible show wpAny _ _ (binaryOp Operator.Add (Value.str _ _) (Value.str _ _)) _ _ _); ((with_reducible show wpAny _ _ (binaryOp Operator.Add (Value.str _ _) (Value.str _ _)) _ _ _); (refine SB.add (hsz := ?hszQz) ?_); (case hszQz => (rw [PySem.sizeLine_eq]; (try simp only [Str.length_append]); omega)); intro t9 k9)) | ((with_reducible show wpAny _ _ (call (Value.builtin "list.append") _) _ _ _); (k_here; (try dsimp only [List.cons_append, List.nil_append]); (with_reducible show wpAny _ _ (call (Value.builtin _) [Value.ref _, _]) _ _ _); k_dflt (refine' append_K ?k1Qz ?k2Qz ?k3Qz ?_ ?zQz; (case k1Qz => k_asm); (case k2Qz => k_asm); (case k3Qz => k_upd); (case zQz => size_fits); k_whole); intro h' F' N'; (try k_sweep))) | ((with_reducible show wpAny _ _ (execs [] _) _ _ _); (k_here; (with_reducible refine wpAny_execs_nil ?_); (try dsimp only))) | ((with_reducible show wpAny _ _ (execs (_ :: _) _) _ _ _); (k_here; (with_reducible refine wpAny_execs_cons ?_); (try dsimp only))) | walk1) <;> (try dsimp only)))
      all_goals (rename Fr _ _ _ _ => F9; rename News _ _ _ _ => N9; exact next _ _ _ _ _ _ _ _ _ hs9 (.inl ⟨hb47, rfl, rfl⟩) (fr_upd (fr_upd (fr_upd (fr_upd F9 rfl) rfl) rfl) rfl) (news_drop N9 (mem_but4 _ _ _ _)))
    · rw [decide_eq_false hb47] at hg1
      repeat' ((fail_if_success (with_reducible show wpAny _ _ (execs (PySem.Stmt.If (PySem.Expr.Compare (PySem.Expr.Call _ _ _ _) _ _ _) _ _ _ :: _) _) _ _ _)); ((first | ((with_reducible show wpAny _ _ (compareOp CmpOp.NotEq (Value.bool _) (Value.bool _)) _ _ _); (k_here; k_dflt (refine' ne_bool_no ?k1Qz ?_; (case k1Qz => first | assumption | exact rfl); k_whole))) | ((with_reducible show wpAny _ _ (compareOp CmpOp.NotEq (Value.str _ _) (Value.str _ _)) _ _ _); (k_here; k_dflt (refine' ne_str_no ?k1Qz ?_; (case k1Qz => assumption); k_whole))) | ((with_reducible show StarOf _ _ _ (Value.ref _) _ _); (k_here; k_dflt (refine' txt_star ?k1Qz ?k2Qz ?k3Qz ?k4Qz ?k5Qz ?_; (case k1Qz => k_asm); (case k2Qz => k_asm); (case k3Qz => k_mem); (case k4Qz => assumption); (case k5Qz => omega); k_whole); intro h' F' N'; (try k_sweep); (try simp only [List.nil_append, List.cons_append, List.append_nil]))) | ((with_reducible show wpAny _ _ (subscriptTail _ _ (Value.ref _) (Value.int _ _)) _ _ _); (k_here; (with_reducible show wpAny _ _ (subscriptTail _ _ (Value.ref _) (Value.int 0 _)) _ _ _); k_dflt (refine' txt_first ?k1Qz ?k2Qz ?k3Qz ?k4Qz ?_ ?k5Qz ?k6Qz; (case k1Qz => k_asm); (case k2Qz => k_mem); (case k3Qz => assumption); (case k4Qz => assumption); (case k5Qz => with_unfolding_all rfl); (case k6Qz => (intro _; with_unfolding_all rfl)); k_whole); intro t9)) | ((with_reducible show wpAny _ _ (compareOp CmpOp.NotIn (Value.str _ _) (Value.ref _)) _ _ _); (k_here; k_dflt (refine' row_notin ?k1Qz ?k2Qz ?k3Qz ?k4Qz ?k5Qz ?_; (case k1Qz => k_asm); (case k2Qz => k_mem); (case k3Qz => exact RowsOk.keys (by assumption)); (case k4Qz => assumption); (case k5Qz => assumption); k_whole))) | ((with_reducible show wpAny _ _ (call (Value.builtin "str.split") _) _ _ _); (k_here; (try dsimp only [List.cons_append, List.nil_append]); (with_reducible show wpAny _ _ (call (Value.builtin _) [Value.str _ _, Value.str _ _]) _ _ _); k_dflt (refine' txt_split ?k1Qz ?k2Qz ?k3Qz ?k4Qz ?_; (case k1Qz => k_asm); (case k2Qz => k_asm); (case k3Qz => rfl); (case k4Qz => omega); k_whole); intro D' h' ws k9 F' N' l1 hs9; (try k_lt l1); (try k_sweep))) | ((with_reducible show wpAny _ _ (subscriptTail _ (PySem.Expr.Slice _ _ _ _) (Value.ref _) (Value.ref _)) _ _ _); (k_here; (with_reducible show wpAny _ _ (subscriptTail _ (PySem.Expr.Slice _ _ none _) (Value.ref _) (Value.ref _)) _ _ _); k_dflt (refine' txt_slice (s := ⟨_, _, _, _, _⟩) ?FQz ?NQz ?mQz ?xQz ?zQz ?pQz ?qQz ?yQz ?_ ?sQz ?tQz; (case FQz => k_asm); (case NQz => k_asm); (case mQz => k_mem); (case xQz => assumption); (case zQz => omega); (case pQz => first | exact IsPart.none | exact IsPart.int _ _); (case qQz => first | exact IsPart.none | exact IsPart.int _ _); (case yQz => first | exact pick_upto1 (by assumption) | exact pick_run1 (by assumption) (by omega) | exact pick_from (by assumption) (by omega)); (case sQz => with_unfolding_all rfl); (case tQz => (intro _; with_unfolding_all rfl)); k_whole); intro D' h' ws F' N' l1 hs9; (try k_lt l1); (try k_sweep))) | ((with_reducible show wpAny _ _ (subscriptTail _ (PySem.Expr.Slice _ _ _ _) (Value.ref _) (Value.ref _)) _ _ _); (k_here; (with_reducible show wpAny _ _ (subscriptTail _ (PySem.Expr.Slice none none (some _) _) (Value.ref _) (Value.ref _)) _ _ _); k_dflt (refine' txt_rev (s := ⟨_, _, _, _, _⟩) ?FQz ?NQz ?mQz ?xQz ?zQz ?kQz ?_ ?sQz ?tQz; (case FQz => k_asm); (case NQz => k_asm); (case mQz => k_mem); (case xQz => assumption); (case zQz => omega); (case kQz => exact IsPart.int _ _); (case sQz => with_unfolding_all rfl); (case tQz => (intro _; with_unfolding_all rfl)); k_whole); intro D' h' ws F' N' l1 hs9; (try k_lt l1); (try k_sweep))) | ((with_reducible show wpAny _ _ (binaryOp Operator.Add (Value.ref _) (Value.ref _)) _ _ _); (k_here; (with_reducible show wpAny _ _ (binaryOp _ (Value.ref _) (Value.ref _)) _ _ _); k_dflt (refine' txt_add ?k1Qz ?k2Qz ?k3Qz ?k4Qz ?k5Qz ?k6Qz ?k7Qz ?_; (case k1Qz => k_asm); (case k2Qz => k_asm); (case k3Qz => k_mem); (case k4Qz => assumption); (case k5Qz => k_mem); (case k6Qz => assumption); (case k7Qz => omega); k_whole); intro D' h' F' N' l1 hs9; (try k_lt l1); (try k_sweep))) | ((with_reducible show wpAny _ _ (call (Value.builtin "list.insert") _) _ _ _); (k_here; (try dsimp only [List.cons_append, List.nil_append]); (with_reducible show wpAny _ _ (call (Value.builtin _) [Value.ref _, Value.int 0 _, Value.str _ _]) _ _ _); k_dflt (refine' txt_insert0 ?k1Qz ?k2Qz ?k3Qz ?k4Qz ?k5Qz ?_; (case k1Qz => k_asm); (case k2Qz => k_asm); (case k5Qz => k_upd); (case k3Qz => assumption); (case k4Qz => omega); k_whole); intro h' F' N' hs9; (try k_sweep))) | ((with_reducible show wpAny _ _ (call (Value.builtin "list.pop") _) _ _ _); (k_here; (try dsimp only [List.cons_append, List.nil_append]); (with_reducible show wpAny _ _ (call (Value.builtin _) [Value.ref _]) _ _ _); k_dflt (refine' txt_pop ?k1Qz ?k2Qz ?k3Qz ?k6Qz ?k4Qz ?k5Qz ?_; (case k1Qz => k_asm); (case k2Qz => k_asm); (case k5Qz => k_upd); (case k3Qz => assumption); (case k4Qz => omega); (case k6Qz => first | assumption | exact ne1 (by assumption) | exact ne2 (by assumption)); k_whole); intro h' t9 F' N' hs9; (try k_sweep))) | ((with_reducible show wpAny _ _ (call (Value.builtin "list.append") _) _ _ _); (k_here; (try dsimp only [List.cons_append, List.nil_append]); (with_reducible show wpAny _ _ (call (Value.builtin _) [Value.ref _, Value.str _ _]) _ _ _); k_dflt (refine' txt_append ?k1Qz ?k2Qz ?k3Qz ?k4Qz ?k5Qz ?_; (case k1Qz => k_asm); (case k2Qz => k_asm); (case k5Qz => k_upd); (case k3Qz => assumption); (case k4Qz => omega); k_whole); intro h' F' N' hs9; (try k_sweep))) | ((with_reducible show wpAny _ _ (call (Value.builtin "str.join") _) _ _ _); (k_here; (try dsimp only [List.cons_append, List.nil_append]); (with_reducible show wpAny _ _ (call (Value.builtin _) [Value.str _ _, Value.ref _]) _ _ _); k_dflt (refine' txt_join ?k1Qz ?k2Qz ?k3Qz ?k4Qz ?_; (case k1Qz => k_asm); (case k2Qz => k_mem); (case k3Qz => assumption); (case k4Qz => first | assumption | omega); k_whole); intro t9 k9)) | ((with_reducible show wpAny _ _ (call (Value.builtin "len") _) _ _ _); (k_here; (with_reducible show wpAny _ _ (call (Value.builtin _) [Value.ref _]) _ _ _); k_dflt (refine' txt_len ?k1Qz ?k2Qz ?k3Qz ?k4Qz ?_; (case k1Qz => k_asm); (case k2Qz => k_mem); (case k3Qz => assumption); (case k4Qz => omega); k_whole))) | ((with_reducible show wpAny _ _ (truthy (Value.ref _)) _ _ _); (k_here; k_dflt (refine' txt_truthy ?k1Qz ?k2Qz ?k3Qz ?k4Qz ?_; (case k1Qz => k_asm); (case k2Qz => k_mem); (case k3Qz => assumption); (case k4Qz => omega); k_whole))) | ((with_reducible show wpAny _ _ (subscriptTail _ _ (Value.ref _) (Value.int _ _)) _ _ _); (k_here; (with_reducible show wpAny _ _ (subscriptTail _ _ (Value.ref _) (Value.int (-1) _)) _ _ _); k_dflt (refine' txt_last ?k1Qz ?k2Qz ?k3Qz ?k4Qz ?_ ?k5Qz ?k6Qz; (case k1Qz => k_asm); (case k2Qz => k_mem); (case k3Qz => assumption); (case k4Qz => first | assumption | exact ne1 (by assumption) | exact ne2 (by assumption)); (case k5Qz => with_unfolding_all rfl); (case k6Qz => (intro _; with_unfolding_all rfl)); k_whole); intro t9)) | ((with_reducible show wpAny _ _ (binaryOp Operator.Add (Value.str _ _) (Value.str _ _)) _ _ _); ((with_reducible show wpAny _ _ (binaryOp Operator.Add (Value.str _ _) (Value.str _ _)) _ _ _); (refine SB.add (hsz := ?hszQz) ?_); (case hszQz => (rw [PySem.sizeLine_eq]; (try simp only [Str.length_append]); omega)); intro t9 k9)) | ((with_reducible show wpAny _ _ (call (Value.builtin "list.append") _) _ _ _); (k_here; (try dsimp only [List.cons_append, List.nil_append]); (with_reducible show wpAny _ _ (call (Value.builtin _) [Value.ref _, _]) _ _ _); k_dflt (refine' append_K ?k1Qz ?k2Qz ?k3Qz ?_ ?zQz; (case k1Qz => k_asm); (case k2Qz => k_asm); (case k3Qz => k_upd); (case zQz => size_fits); k_whole); intro h' F' N'; (try k_sweep))) | ((with_reducible show wpAny _ _ (execs [] _) _ _ _); (k_here; (with_reducible refine wpAny_execs_nil ?_); (try dsimp only))) | ((with_reducible show wpAny _ _ (execs (_ :: _) _) _ _ _); (k_here; (with_reducible refine wpAny_execs_cons ?_); (try dsimp only))) | walk1) <;> (try dsimp only)))
      all_goals (rename Fr _ _ _ _ => F9; rename News _ _ _ _ => N9; exact next _ _ _ _ _ _ _ _ _ (by assumption) (.inr ⟨hb47, rfl, rfl⟩) (fr_upd (fr_upd (fr_upd (fr_upd F9 rfl) rfl) rfl) rfl) (news_drop N9 (mem_but5 _ _ _ _ _))))
section
variable {prog : Program} {w : World} {A : Around} {E : Value → Shared → Prop} {s : Shared} {h₀ : Heap} {L : Addr} {m : Str → Option Value} {env : Env} {news : Led}
/-- the turns of a comprehension with a test, by an invariant of what is made so far -/
theorem compRestT_of {ct elt : PySem.Expr} {x : Str} {scope : Scope} {cl : List (Str × Addr)} {S : Led → Prop} {P : Nat → Value → Prop} {Fin : List Value → Led → Prop} {n : Nat} {news : Led} (J : Nat → List Value → Prop)
    (turn : ∀ i v ys I oI C oC D m₂ h tk (E' : Value → Shared → Prop), i < n → P i v → J i ys → LCg.NsObj oC m₂ → m₂ x = some v → Fr h₀ L h m → News h₀ L h ((I, oI) :: (C, oC) :: (D, LCg.lst ys) :: news) → LCg.Off3 I C D news → ((@Ne Nat I C) ∧ (@Ne Nat I D) ∧ (@Ne Nat C D)) →
      wpAny (model prog w) A (isTrue ct (compEnvC scope cl C env) (eval ct (compEnvC scope cl C env))) (fun ok s' => if ok = true then
        wpAny (model prog w) A (eval elt (compEnvC scope cl C env)) (LCg.CompEnd h₀ L m { s with heap := h, toks := tk } I oI C oC D (LCg.lst ys) S (fun y news' => news' = news ∧ J (i + 1) (ys ++ [y]))) E' s'
        else LCg.CompEnd h₀ L m { s with heap := h, toks := tk } I oI C oC D (LCg.lst ys) S (fun _ news' => news' = news ∧ J (i + 1) ys) Value.none s') E' { s with heap := h, toks := tk })
    (fin : ∀ ys, J n ys → Fin ys news) : ∀ k i ys, i + k = n → J i ys → LCt.CompRestT prog w A h₀ L m env ct elt x scope cl s S P Fin k i ys news
  | 0, i, ys, e, j => by
    have : i = n := by omega
    exact LCt.CompRestT.zero (fin ys (this ▸ j))
  | k + 1, i, ys, e, j => by
    refine LCt.CompRestT.succ fun v I oI C oC D m₂ h tk E' hP hC hx F N off ne => ?_
    refine wpAny_mono (turn i v ys I oI C oC D m₂ h tk E' (by omega) hP j hC hx F N off ne) (fun ok s₂ h₂ => ?_) fun _ _ e => e
    cases ok with
    | true =>
      simp only [if_true] at h₂ ⊢
      refine wpAny_mono h₂ (fun y s₃ h₃ => ?_) fun _ _ e => e
      refine compEnd_mono (fun news' r => ?_) h₃
      obtain ⟨rfl, j'⟩ := r
      exact compRestT_of J turn fin k (i + 1) (ys ++ [y]) (by omega) j'
    | false =>
      simp only [Bool.false_eq_true, if_false] at h₂ ⊢
      refine compEnd_mono (fun news' r => ?_) h₂
      obtain ⟨rfl, j'⟩ := r
      exact compRestT_of J turn fin k (i + 1) ys (by omega) j'
theorem ne_str_yes {x y : Str} {t u : Tok} {Q : Value → Shared → Prop} (e : ¬ x = y) (h : Q (.bool true) s) : wpAny (model prog w) A (compareOp .NotEq (.str x t) (.str y u)) Q E s := by
  refine ne_str ?_
  have : (x != y) = true := by simpa using e
  rw [this]; exact h
theorem txt_add1 {l l2 : Addr} {vs : List Value} {xs : List Str} {y : Str} {u : Tok} {n n2 : Nat} {Q : Value → Shared → Prop} (F : Fr h₀ L s.heap m) (N : News h₀ L s.heap news) (hm : (l, W.listOf vs.toArray n) ∈ news) (hx : StrsAre vs xs) (hm2 : (l2, W.listOf #[Value.str y u] n2) ∈ news) (hsz : xs.length ≤ 50000)
    (h : ∀ D h', Fr h₀ L h' m → News h₀ L h' ((D, W.listOf (vs ++ [Value.str y u]).toArray 0) :: news) → (∀ p ∈ news, p.1 < D) → StrsAre (vs ++ [.str y u]) (xs ++ [y]) → Q (.ref D) { s with heap := h' }) :
    wpAny (model prog w) A (binaryOp .Add (.ref l) (.ref l2)) Q E s :=
  txt_add F N hm hx (vs2 := [.str y u]) hm2 (.cons _ _ .nil) (by simp only [List.length_cons, List.length_nil]; omega) h
end
theorem filter_take {l : List Str} {i : Nat} {p : Str} (h : l[i]? = some p) : (l.take (i + 1)).filter (fun p => p != Str.ofString "") = if p = Str.ofString "" then (l.take i).filter (fun p => p != Str.ofString "") else (l.take i).filter (fun p => p != Str.ofString "") ++ [p] := by
  rw [List.take_add_one, h, List.filter_append]
  by_cases e : p = Str.ofString ""
  · rw [if_pos e, e]; simp
  · rw [if_neg e]
    show _ ++ [p].filter _ = _
    rw [List.filter_cons, if_pos (by simpa using e)]; rfl
theorem Tells.useC {w : World} {mean : ExcName → Option Value} {mg mb : Str → Option Value} {tk0 dd uu : Nat} {f : Addr} {news : Led} {vs : List Value} {x : Str} {xs : List Str}
    {dp un : Nat} {gd : Option (List Code)} {cn : Str} {cs : Scope} {a : Addr} {ccd : Value} {cl : List (Str × Addr)} {outer : List Env} {A₀ : Around} {base h₀ : Heap} {L : Addr} {m : Str → Option Value} {s : Shared} {Q E : Value → Shared → Prop}
    (B : Below A₀ base outer h₀) (F : Fr h₀ L s.heap m) (X : (pre.heap_1 w.params).In h₀) (N : News h₀ L s.heap news)
    (T : Top VV (looseW VV [Str.ofString "escape", Str.ofString "unescape"]) mean mg mb h₀) (hk : cs.kind = .function)
    (C : Tells w mean mg mb tk0 dd uu f news vs (RClimb x xs))
    (hd : dp + dd < recursionLimit) (hu : un + uu < cLine) (htk : tk0 ≤ s.toks)
    (ret : ∀ D h' tk' t l ws c, Fr h₀ L h' m → News h₀ L h' ((D, tupOf [.str x t, .ref l]) :: (l, W.listOf ws.toArray c) :: news) → tk0 ≤ tk' → StrsAre ws xs → Q (.ref D) { s with heap := h', toks := tk' }) :
    wpAny (model PySem.Challenge.rw_ij0051_01.row.prog w) (ktrTop dp un gd cn cs L a ccd cl outer) (call (.ref f) vs) Q E s :=
  C.use B F X N T hk hd hu htk fun r tl h' tk' F' N' ht ⟨D, t, l, ws, c, e1, e2, e3⟩ => by subst e1 e2; exact ret D h' tk' t l ws c F' N' ht e3
theorem normP_len (p : Str) : 0 ≤ (normP p).length := Nat.zero_le _
theorem seg5 {w : World} {mean : ExcName → Option Value} {mg mb : Str → Option Value} {base h₀ : Heap} {L fa : Addr} {cd : Value} {m₀ : Str → Option Value} {s : Shared} {Q : Flow → Shared → Prop} {E : Value → Shared → Prop} (A0 : Around0 w mean mg mb base h₀) {Y : List Nat} {qs qb : List Row4} {NS : List Str} {d1 d2 : Addr} {e1 e2 : Nat} {oc : Obj} (K : Facts Y qs qb NS) (hoc : oc.data = .cell (some (.ref d1))) (lo1 : (d1 == sysModules) = false) (lo2 : (d2 == sysModules) = false) {p f : Str} {t1 tf : Tok} {DP : Addr} {vsP : List Value} {cP : Nat} {ps : List Str} (hsP : StrsAre vsP ps) (hm4 : normP p = plainP f ps (!decide (46 ∈ Y)) qs) (hm5 : climbT p qb = (f, keptS ps)) (hof : OkS f) (hop : ∀ y ∈ ps, OkS y) (hpn : ps ≠ []) (hfl : f.length ≤ 1000) (hpl : (ps.map (·.length)).sum + ps.length ≤ 1000) (hpp : p.length ≤ 1000)
    (F : Fr h₀ L s.heap (fun y => if y = Str.ofString "front" then some (.str f tf) else if y = Str.ofString "pieces" then some (.ref DP) else if y = Str.ofString "path" then some (.str p t1) else if y = Str.ofString "back" then some (.ref d2) else m₀ y)) (N : News h₀ L s.heap [(DP, W.listOf vsP.toArray cP), (d2, dObj w qb e2), (d1, dObj w qs e1), (L + 1, oc)])
    (next : ∀ (h' : Heap) (tk' : Nat) (m₁ : Str → Option Value), Fr h₀ L h' m₁ → Q (.ret (.bool true)) { s with heap := h', toks := tk' }) :
    wpAny (model PySem.Challenge.rw_ij0051_01.row.prog w) (callerA.deeper (lawEnv L fa cd)) (execs (lawRec.body.drop 18) (lawEnv L fa cd)) Q E s := by
  obtain ⟨B, X, T⟩ := A0
  revert X
  w_on
  w_strict (
    k_fill
    intro X
    unfold lawEnv lawRec recBy
    dsimp only [List.drop]
    obtain ⟨hp0, gn0, dr0, tk0, os0⟩ := s
    dsimp only at F N next ⊢
    obtain ⟨hY, hT, hq, hqb, hns0, hnsl, hnss, hok⟩ := K
    have hg2 := rowGet_tb hT 46
    rw [show one 46 = Str.ofString "." by decide] at hg2
    have hspn := split_room (srRest p)
    have hsrn := srRest_len p
    have hnl := normP_len p
    have hpdl : ps.dropLast.length ≤ 1000 := by rw [List.length_dropLast]; omega
    clear hok hY hT
    repeat' ((fail_if_success (with_reducible show LCt.CompSrcT _ _ _ _ _ _ _ _ _ _ _ _ _ _ _)); ((first | ((with_reducible show wpAny _ _ (call (Value.ref 194) _) _ _ _); (k_here; (try simp only [List.append_nil]); (with_reducible show wpAny _ _ (call (Value.ref 194) _) _ _ _); k_dflt (refine' Tells.useC ?k1Qz ?k2Qz ?k3Qz ?k4Qz ?k5Qz ?k6Qz ?kcQz ?k7Qz ?k8Qz ?k9Qz ?_; (case k1Qz => k_asm); (case k2Qz => k_asm); (case k3Qz => k_asm); (case k4Qz => k_asm); (case k5Qz => k_asm); (case kcQz => exact climb_ok _ _ _ _ _ (by k_mem) (by assumption) (by assumption) (by omega)); (case k6Qz => first | exact rfl | assumption); (case k7Qz => ktr_room); (case k8Qz => ktr_units); (case k9Qz => first | exact Nat.zero_le _ | ((try dsimp only); omega)); k_whole); intro D9 h9 tk9 t9 l9 ws9 c9 F9 N9 htk9 hs9)) | ((with_reducible show wpAny _ _ (compareOp CmpOp.Eq (Value.ref _) (Value.ref _)) _ _ _); (k_here; k_dflt (refine' pair_eq ?k1Qz ?m1Qz ?m2Qz ?x1Qz ?m3Qz ?m4Qz ?x2Qz ?eaQz ?exQz ?oaQz ?oxQz ?huQz ?_; (case k1Qz => k_asm); (case m1Qz => k_mem); (case m3Qz => k_mem); (case m2Qz => k_mem); (case m4Qz => k_mem); (case x1Qz => assumption); (case x2Qz => assumption); (case eaQz => assumption); (case exQz => assumption); (case oaQz => assumption); (case oxQz => assumption); (case huQz => ke_room); k_whole))) | ((with_reducible show wpAny _ _ (binaryOp Operator.Add (Value.ref _) (Value.ref _)) _ _ _); (k_here; (with_reducible show wpAny _ _ (binaryOp _ (Value.ref _) (Value.ref _)) _ _ _); k_dflt (refine' txt_add1 ?k1Qz ?k2Qz ?k3Qz ?k4Qz ?k5Qz ?k7Qz ?_; (case k1Qz => k_asm); (case k2Qz => k_asm); (case k5Qz => k_mem); (case k3Qz => k_mem); (case k4Qz => assumption); (case k7Qz => omega); k_whole); intro D' h' F' N' l1 hs9; (try k_lt l1); (try k_sweep))) | ((with_reducible show wpAny _ _ (compareOp CmpOp.NotEq (Value.str _ _) (Value.str _ _)) _ _ _); (k_here; k_dflt (refine' ne_str_no ?k1Qz ?_; (case k1Qz => assumption); k_whole))) | ((with_reducible show wpAny _ _ (compareOp CmpOp.NotEq (Value.str _ _) (Value.str _ _)) _ _ _); (k_here; k_dflt (refine' ne_str_yes ?k1Qz ?_; (case k1Qz => assumption); k_whole))) | ((with_reducible show wpAny _ _ (eval (PySem.Expr.ListComp _ _ _ _) _) _ _ _); (k_here; (with_reducible show wpAny _ _ (eval (PySem.Expr.ListComp _ _ _ _) _) _ _ _); k_dflt (refine LCt.ListComp_T (F₀ := by k_asm) (by rfl) (by decide) (by rfl) (by decide) (by rfl) ?_))) | ((with_reducible show wpAny _ _ (call (Value.ref 187) _) _ _ _); (k_here; (try simp only [List.append_nil]); (with_reducible show wpAny _ _ (call (Value.ref 187) _) _ _ _); k_dflt (refine' Tells.useS ?k1Qz ?k2Qz ?k3Qz ?k4Qz ?k5Qz ?k6Qz ?kcQz ?k7Qz ?k8Qz ?k9Qz ?_; (case k1Qz => k_asm); (case k2Qz => k_asm); (case k3Qz => k_asm); (case k4Qz => k_asm); (case k5Qz => k_asm); (case kcQz => exact plain_ok _ _ _ _ _ _ (by assumption) (by k_mem) _ _ _ _ (by k_mem) (by assumption) (by assumption) (by omega) (by omega)); (case k6Qz => first | exact rfl | assumption); (case k7Qz => ktr_room); (case k8Qz => ktr_units); (case k9Qz => first | exact Nat.zero_le _ | ((try dsimp only); omega)); k_whole; intro t9 h9 tk9 F9 N9 htk9))) | ((with_reducible show wpAny _ _ (call (Value.ref 161) _) _ _ _); (k_here; (try simp only [List.append_nil]); (with_reducible show wpAny _ _ (call (Value.ref 161) _) _ _ _); k_dflt (refine' Tells.useS ?k1Qz ?k2Qz ?k3Qz ?k4Qz ?k5Qz ?k6Qz ?kcQz ?k7Qz ?k8Qz ?k9Qz ?_; (case k1Qz => k_asm); (case k2Qz => k_asm); (case k3Qz => k_asm); (case k4Qz => k_asm); (case k5Qz => k_asm); (case kcQz => exact norm_ok _ _ (by omega) (by omega)); (case k6Qz => first | exact rfl | assumption); (case k7Qz => ktr_room); (case k8Qz => ktr_units); (case k9Qz => first | exact Nat.zero_le _ | ((try dsimp only); omega)); k_whole; intro t9 h9 tk9 F9 N9 htk9))) | ((with_reducible show wpAny _ _ (compareOp CmpOp.NotEq (Value.bool _) (Value.bool _)) _ _ _); (k_here; k_dflt (refine' ne_bool_no ?k1Qz ?_; (case k1Qz => first | assumption | exact rfl); k_whole))) | ((with_reducible show wpAny _ _ (compareOp CmpOp.NotEq (Value.str _ _) (Value.str _ _)) _ _ _); (k_here; k_dflt (refine' ne_str_no ?k1Qz ?_; (case k1Qz => assumption); k_whole))) | ((with_reducible show StarOf _ _ _ (Value.ref _) _ _); (k_here; k_dflt (refine' txt_star ?k1Qz ?k2Qz ?k3Qz ?k4Qz ?k5Qz ?_; (case k1Qz => k_asm); (case k2Qz => k_asm); (case k3Qz => k_mem); (case k4Qz => assumption); (case k5Qz => omega); k_whole); intro h' F' N'; (try k_sweep); (try simp only [List.nil_append, List.cons_append, List.append_nil]))) | ((with_reducible show wpAny _ _ (subscriptTail _ _ (Value.ref _) (Value.int _ _)) _ _ _); (k_here; (with_reducible show wpAny _ _ (subscriptTail _ _ (Value.ref _) (Value.int 0 _)) _ _ _); k_dflt (refine' txt_first ?k1Qz ?k2Qz ?k3Qz ?k4Qz ?_ ?k5Qz ?k6Qz; (case k1Qz => k_asm); (case k2Qz => k_mem); (case k3Qz => assumption); (case k4Qz => assumption); (case k5Qz => with_unfolding_all rfl); (case k6Qz => (intro _; with_unfolding_all rfl)); k_whole); intro t9)) | ((with_reducible show wpAny _ _ (compareOp CmpOp.NotIn (Value.str _ _) (Value.ref _)) _ _ _); (k_here; k_dflt (refine' row_notin ?k1Qz ?k2Qz ?k3Qz ?k4Qz ?k5Qz ?_; (case k1Qz => k_asm); (case k2Qz => k_mem); (case k3Qz => exact RowsOk.keys (by assumption)); (case k4Qz => assumption); (case k5Qz => assumption); k_whole))) | ((with_reducible show wpAny _ _ (call (Value.builtin "str.split") _) _ _ _); (k_here; (try dsimp only [List.cons_append, List.nil_append]); (with_reducible show wpAny _ _ (call (Value.builtin _) [Value.str _ _, Value.str _ _]) _ _ _); k_dflt (refine' txt_split ?k1Qz ?k2Qz ?k3Qz ?k4Qz ?_; (case k1Qz => k_asm); (case k2Qz => k_asm); (case k3Qz => rfl); (case k4Qz => omega); k_whole); intro D' h' ws k9 F' N' l1 hs9; (try k_lt l1); (try k_sweep))) | ((with_reducible show wpAny _ _ (subscriptTail _ (PySem.Expr.Slice _ _ _ _) (Value.ref _) (Value.ref _)) _ _ _); (k_here; (with_reducible show wpAny _ _ (subscriptTail _ (PySem.Expr.Slice _ _ none _) (Value.ref _) (Value.ref _)) _ _ _); k_dflt (refine' txt_slice (s := ⟨_, _, _, _, _⟩) ?FQz ?NQz ?mQz ?xQz ?zQz ?pQz ?qQz ?yQz ?_ ?sQz ?tQz; (case FQz => k_asm); (case NQz => k_asm); (case mQz => k_mem); (case xQz => assumption); (case zQz => omega); (case pQz => first | exact IsPart.none | exact IsPart.int _ _); (case qQz => first | exact IsPart.none | exact IsPart.int _ _); (case yQz => first | exact pick_upto1 (by assumption) | exact pick_run1 (by assumption) (by omega) | exact pick_from (by assumption) (by omega)); (case sQz => with_unfolding_all rfl); (case tQz => (intro _; with_unfolding_all rfl)); k_whole); intro D' h' ws F' N' l1 hs9; (try k_lt l1); (try k_sweep))) | ((with_reducible show wpAny _ _ (subscriptTail _ (PySem.Expr.Slice _ _ _ _) (Value.ref _) (Value.ref _)) _ _ _); (k_here; (with_reducible show wpAny _ _ (subscriptTail _ (PySem.Expr.Slice none none (some _) _) (Value.ref _) (Value.ref _)) _ _ _); k_dflt (refine' txt_rev (s := ⟨_, _, _, _, _⟩) ?FQz ?NQz ?mQz ?xQz ?zQz ?kQz ?_ ?sQz ?tQz; (case FQz => k_asm); (case NQz => k_asm); (case mQz => k_mem); (case xQz => assumption); (case zQz => omega); (case kQz => exact IsPart.int _ _); (case sQz => with_unfolding_all rfl); (case tQz => (intro _; with_unfolding_all rfl)); k_whole); intro D' h' ws F' N' l1 hs9; (try k_lt l1); (try k_sweep))) | ((with_reducible show wpAny _ _ (binaryOp Operator.Add (Value.ref _) (Value.ref _)) _ _ _); (k_here; (with_reducible show wpAny _ _ (binaryOp _ (Value.ref _) (Value.ref _)) _ _ _); k_dflt (refine' txt_add ?k1Qz ?k2Qz ?k3Qz ?k4Qz ?k5Qz ?k6Qz ?k7Qz ?_; (case k1Qz => k_asm); (case k2Qz => k_asm); (case k3Qz => k_mem); (case k4Qz => assumption); (case k5Qz => k_mem); (case k6Qz => assumption); (case k7Qz => omega); k_whole); intro D' h' F' N' l1 hs9; (try k_lt l1); (try k_sweep))) | ((with_reducible show wpAny _ _ (call (Value.builtin "list.insert") _) _ _ _); (k_here; (try dsimp only [List.cons_append, List.nil_append]); (with_reducible show wpAny _ _ (call (Value.builtin _) [Value.ref _, Value.int 0 _, Value.str _ _]) _ _ _); k_dflt (refine' txt_insert0 ?k1Qz ?k2Qz ?k3Qz ?k4Qz ?k5Qz ?_; (case k1Qz => k_asm); (case k2Qz => k_asm); (case k5Qz => k_upd); (case k3Qz => assumption); (case k4Qz => omega); k_whole); intro h' F' N' hs9; (try k_sweep))) | ((with_reducible show wpAny _ _ (call (Value.builtin "list.pop") _) _ _ _); (k_here; (try dsimp only [List.cons_append, List.nil_append]); (with_reducible show wpAny _ _ (call (Value.builtin _) [Value.ref _]) _ _ _); k_dflt (refine' txt_pop ?k1Qz ?k2Qz ?k3Qz ?k6Qz ?k4Qz ?k5Qz ?_; (case k1Qz => k_asm); (case k2Qz => k_asm); (case k5Qz => k_upd); (case k3Qz => assumption); (case k4Qz => omega); (case k6Qz => first | assumption | exact ne1 (by assumption) | exact ne2 (by assumption)); k_whole); intro h' t9 F' N' hs9; (try k_sweep))) | ((with_reducible show wpAny _ _ (call (Value.builtin "list.append") _) _ _ _); (k_here; (try dsimp only [List.cons_append, List.nil_append]); (with_reducible show wpAny _ _ (call (Value.builtin _) [Value.ref _, Value.str _ _]) _ _ _); k_dflt (refine' txt_append ?k1Qz ?k2Qz ?k3Qz ?k4Qz ?k5Qz ?_; (case k1Qz => k_asm); (case k2Qz => k_asm); (case k5Qz => k_upd); (case k3Qz => assumption); (case k4Qz => omega); k_whole); intro h' F' N' hs9; (try k_sweep))) | ((with_reducible show wpAny _ _ (call (Value.builtin "str.join") _) _ _ _); (k_here; (try dsimp only [List.cons_append, List.nil_append]); (with_reducible show wpAny _ _ (call (Value.builtin _) [Value.str _ _, Value.ref _]) _ _ _); k_dflt (refine' txt_join ?k1Qz ?k2Qz ?k3Qz ?k4Qz ?_; (case k1Qz => k_asm); (case k2Qz => k_mem); (case k3Qz => assumption); (case k4Qz => first | assumption | omega); k_whole); intro t9 k9)) | ((with_reducible show wpAny _ _ (call (Value.builtin "len") _) _ _ _); (k_here; (with_reducible show wpAny _ _ (call (Value.builtin _) [Value.ref _]) _ _ _); k_dflt (refine' txt_len ?k1Qz ?k2Qz ?k3Qz ?k4Qz ?_; (case k1Qz => k_asm); (case k2Qz => k_mem); (case k3Qz => assumption); (case k4Qz => omega); k_whole))) | ((with_reducible show wpAny _ _ (truthy (Value.ref _)) _ _ _); (k_here; k_dflt (refine' txt_truthy ?k1Qz ?k2Qz ?k3Qz ?k4Qz ?_; (case k1Qz => k_asm); (case k2Qz => k_mem); (case k3Qz => assumption); (case k4Qz => omega); k_whole))) | ((with_reducible show wpAny _ _ (subscriptTail _ _ (Value.ref _) (Value.int _ _)) _ _ _); (k_here; (with_reducible show wpAny _ _ (subscriptTail _ _ (Value.ref _) (Value.int (-1) _)) _ _ _); k_dflt (refine' txt_last ?k1Qz ?k2Qz ?k3Qz ?k4Qz ?_ ?k5Qz ?k6Qz; (case k1Qz => k_asm); (case k2Qz => k_mem); (case k3Qz => assumption); (case k4Qz => first | assumption | exact ne1 (by assumption) | exact ne2 (by assumption)); (case k5Qz => with_unfolding_all rfl); (case k6Qz => (intro _; with_unfolding_all rfl)); k_whole); intro t9)) | ((with_reducible show wpAny _ _ (binaryOp Operator.Add (Value.str _ _) (Value.str _ _)) _ _ _); ((with_reducible show wpAny _ _ (binaryOp Operator.Add (Value.str _ _) (Value.str _ _)) _ _ _); (refine SB.add (hsz := ?hszQz) ?_); (case hszQz => (rw [PySem.sizeLine_eq]; (try simp only [Str.length_append]); omega)); intro t9 k9)) | ((with_reducible show wpAny _ _ (call (Value.builtin "list.append") _) _ _ _); (k_here; (try dsimp only [List.cons_append, List.nil_append]); (with_reducible show wpAny _ _ (call (Value.builtin _) [Value.ref _, _]) _ _ _); k_dflt (refine' append_K ?k1Qz ?k2Qz ?k3Qz ?_ ?zQz; (case k1Qz => k_asm); (case k2Qz => k_asm); (case k3Qz => k_upd); (case zQz => size_fits); k_whole); intro h' F' N'; (try k_sweep))) | ((with_reducible show wpAny _ _ (execs [] _) _ _ _); (k_here; (with_reducible refine wpAny_execs_nil ?_); (try dsimp only))) | ((with_reducible show wpAny _ _ (execs (_ :: _) _) _ _ _); (k_here; (with_reducible refine wpAny_execs_cons ?_); (try dsimp only))) | walk1) <;> (try dsimp only)))
    rename News _ _ _ _ => N8
    rename Fr _ _ _ _ => F8
    rename StrsAre _ (List.dropLast _) => hsd
    refine LCt.CompSrcT.ledger rfl F8 N8 (.head _) (by rw [List.size_toArray, hsd.len_eq, PySem.sizeLine_eq]; omega) fun g => compRestT_of (J := fun i ys => StrsAre ys ((ps.dropLast.take i).filter (fun p => p != Str.ofString ""))) ?_ ?_ _ 0 [] (Nat.zero_add _) .nil
    · rintro i v ys I oI C oC D m₂ h tk E' hi hv hJ hC hx F9 N9 off ne
      (try clear F8); (try clear N8)
      obtain ⟨nm, tn, rfl, hni, hnm⟩ := strs_get hsd hv
      dsimp only at F9 N9 ⊢
      have hft := filter_take hni
      by_cases he : nm = Str.ofString ""
      · rw [if_pos he] at hft
        repeat' ((fail_if_success (with_reducible show wpAny _ _ (pyIter _) _ _ _)); ((first | ((with_reducible show wpAny _ _ (call (Value.ref 194) _) _ _ _); (k_here; (try simp only [List.append_nil]); (with_reducible show wpAny _ _ (call (Value.ref 194) _) _ _ _); k_dflt (refine' Tells.useC ?k1Qz ?k2Qz ?k3Qz ?k4Qz ?k5Qz ?k6Qz ?kcQz ?k7Qz ?k8Qz ?k9Qz ?_; (case k1Qz => k_asm); (case k2Qz => k_asm); (case k3Qz => k_asm); (case k4Qz => k_asm); (case k5Qz => k_asm); (case kcQz => exact climb_ok _ _ _ _ _ (by k_mem) (by assumption) (by assumption) (by omega)); (case k6Qz => first | exact rfl | assumption); (case k7Qz => ktr_room); (case k8Qz => ktr_units); (case k9Qz => first | exact Nat.zero_le _ | ((try dsimp only); omega)); k_whole); intro D9 h9 tk9 t9 l9 ws9 c9 F9 N9 htk9 hs9)) | ((with_reducible show wpAny _ _ (compareOp CmpOp.Eq (Value.ref _) (Value.ref _)) _ _ _); (k_here; k_dflt (refine' pair_eq ?k1Qz ?m1Qz ?m2Qz ?x1Qz ?m3Qz ?m4Qz ?x2Qz ?eaQz ?exQz ?oaQz ?oxQz ?huQz ?_; (case k1Qz => k_asm); (case m1Qz => k_mem); (case m3Qz => k_mem); (case m2Qz => k_mem); (case m4Qz => k_mem); (case x1Qz => assumption); (case x2Qz => assumption); (case eaQz => assumption); (case exQz => assumption); (case oaQz => assumption); (case oxQz => assumption); (case huQz => ke_room); k_whole))) | ((with_reducible show wpAny _ _ (binaryOp Operator.Add (Value.ref _) (Value.ref _)) _ _ _); (k_here; (with_reducible show wpAny _ _ (binaryOp _ (Value.ref _) (Value.ref _)) _ _ _); k_dflt (refine' txt_add1 ?k1Qz ?k2Qz ?k3Qz ?k4Qz ?k5Qz ?k7Qz ?_; (case k1Qz => k_asm); (case k2Qz => k_asm); (case k5Qz => k_mem); (case k3Qz => k_mem); (case k4Qz => assumption); (case k7Qz => omega); k_whole); intro D' h' F' N' l1 hs9; (try k_lt l1); (try k_sweep))) | ((with_reducible show wpAny _ _ (compareOp CmpOp.NotEq (Value.str _ _) (Value.str _ _)) _ _ _); (k_here; k_dflt (refine' ne_str_no ?k1Qz ?_; (case k1Qz => assumption); k_whole))) | ((with_reducible show wpAny _ _ (compareOp CmpOp.NotEq (Value.str _ _) (Value.str _ _)) _ _ _); (k_here; k_dflt (refine' ne_str_yes ?k1Qz ?_; (case k1Qz => assumption); k_whole))) | ((with_reducible show wpAny _ _ (eval (PySem.Expr.ListComp _ _ _ _) _) _ _ _); (k_here; (with_reducible show wpAny _ _ (eval (PySem.Expr.ListComp _ _ _ _) _) _ _ _); k_dflt (refine LCt.ListComp_T (F₀ := by k_asm) (by rfl) (by decide) (by rfl) (by decide) (by rfl) ?_))) | ((with_reducible show wpAny _ _ (call (Value.ref 187) _) _ _ _); (k_here; (try simp only [List.append_nil]); (with_reducible show wpAny _ _ (call (Value.ref 187) _) _ _ _); k_dflt (refine' Tells.useS ?k1Qz ?k2Qz ?k3Qz ?k4Qz ?k5Qz ?k6Qz ?kcQz ?k7Qz ?k8Qz ?k9Qz ?_; (case k1Qz => k_asm); (case k2Qz => k_asm); (case k3Qz => k_asm); (case k4Qz => k_asm); (case k5Qz => k_asm); (case kcQz => exact plain_ok _ _ _ _ _ _ (by assumption) (by k_mem) _ _ _ _ (by k_mem) (by assumption) (by assumption) (by omega) (by omega)); (case k6Qz => first | exact rfl | assumption); (case k7Qz => ktr_room); (case k8Qz => ktr_units); (case k9Qz => first | exact Nat.zero_le _ | ((try dsimp only); omega)); k_whole; intro t9 h9 tk9 F9 N9 htk9))) | ((with_reducible show wpAny _ _ (call (Value.ref 161) _) _ _ _); (k_here; (try simp only [List.append_nil]); (with_reducible show wpAny _ _ (call (Value.ref 161) _) _ _ _); k_dflt (refine' Tells.useS ?k1Qz ?k2Qz ?k3Qz ?k4Qz ?k5Qz ?k6Qz ?kcQz ?k7Qz ?k8Qz ?k9Qz ?_; (case k1Qz => k_asm); (case k2Qz => k_asm); (case k3Qz => k_asm); (case k4Qz => k_asm); (case k5Qz => k_asm); (case kcQz => exact norm_ok _ _ (by omega) (by omega)); (case k6Qz => first | exact rfl | assumption); (case k7Qz => ktr_room); (case k8Qz => ktr_units); (case k9Qz => first | exact Nat.zero_le _ | ((try dsimp only); omega)); k_whole; intro t9 h9 tk9 F9 N9 htk9))) | ((with_reducible show wpAny _ _ (compareOp CmpOp.NotEq (Value.bool _) (Value.bool _)) _ _ _); (k_here; k_dflt (refine' ne_bool_no ?k1Qz ?_; (case k1Qz => first | assumption | exact rfl); k_whole))) | ((with_reducible show wpAny _ _ (compareOp CmpOp.NotEq (Value.str _ _) (Value.str _ _)) _ _ _); (k_here; k_dflt (refine' ne_str_no ?k1Qz ?_; (case k1Qz => assumption); k_whole))) | ((with_reducible show StarOf _ _ _ (Value.ref _) _ _); (k_here; k_dflt (refine' txt_star ?k1Qz ?k2Qz ?k3Qz ?k4Qz ?k5Qz ?_; (case k1Qz => k_asm); (case k2Qz => k_asm); (case k3Qz => k_mem); (case k4Qz => assumption); (case k5Qz => omega); k_whole); intro h' F' N'; (try k_sweep); (try simp only [List.nil_append, List.cons_append, List.append_nil]))) | ((with_reducible show wpAny _ _ (subscriptTail _ _ (Value.ref _) (Value.int _ _)) _ _ _); (k_here; (with_reducible show wpAny _ _ (subscriptTail _ _ (Value.ref _) (Value.int 0 _)) _ _ _); k_dflt (refine' txt_first ?k1Qz ?k2Qz ?k3Qz ?k4Qz ?_ ?k5Qz ?k6Qz; (case k1Qz => k_asm); (case k2Qz => k_mem); (case k3Qz => assumption); (case k4Qz => assumption); (case k5Qz => with_unfolding_all rfl); (case k6Qz => (intro _; with_unfolding_all rfl)); k_whole); intro t9)) | ((with_reducible show wpAny _ _ (compareOp CmpOp.NotIn (Value.str _ _) (Value.ref _)) _ _ _); (k_here; k_dflt (refine' row_notin ?k1Qz ?k2Qz ?k3Qz ?k4Qz ?k5Qz ?_; (case k1Qz => k_asm); (case k2Qz => k_mem); (case k3Qz => exact RowsOk.keys (by assumption)); (case k4Qz => assumption); (case k5Qz => assumption); k_whole))) | ((with_reducible show wpAny _ _ (call (Value.builtin "str.split") _) _ _ _); (k_here; (try dsimp only [List.cons_append, List.nil_append]); (with_reducible show wpAny _ _ (call (Value.builtin _) [Value.str _ _, Value.str _ _]) _ _ _); k_dflt (refine' txt_split ?k1Qz ?k2Qz ?k3Qz ?k4Qz ?_; (case k1Qz => k_asm); (case k2Qz => k_asm); (case k3Qz => rfl); (case k4Qz => omega); k_whole); intro D' h' ws k9 F' N' l1 hs9; (try k_lt l1); (try k_sweep))) | ((with_reducible show wpAny _ _ (subscriptTail _ (PySem.Expr.Slice _ _ _ _) (Value.ref _) (Value.ref _)) _ _ _); (k_here; (with_reducible show wpAny _ _ (subscriptTail _ (PySem.Expr.Slice _ _ none _) (Value.ref _) (Value.ref _)) _ _ _); k_dflt (refine' txt_slice (s := ⟨_, _, _, _, _⟩) ?FQz ?NQz ?mQz ?xQz ?zQz ?pQz ?qQz ?yQz ?_ ?sQz ?tQz; (case FQz => k_asm); (case NQz => k_asm); (case mQz => k_mem); (case xQz => assumption); (case zQz => omega); (case pQz => first | exact IsPart.none | exact IsPart.int _ _); (case qQz => first | exact IsPart.none | exact IsPart.int _ _); (case yQz => first | exact pick_upto1 (by assumption) | exact pick_run1 (by assumption) (by omega) | exact pick_from (by assumption) (by omega)); (case sQz => with_unfolding_all rfl); (case tQz => (intro _; with_unfolding_all rfl)); k_whole); intro D' h' ws F' N' l1 hs9; (try k_lt l1); (try k_sweep))) | ((with_reducible show wpAny _ _ (subscriptTail _ (PySem.Expr.Slice _ _ _ _) (Value.ref _) (Value.ref _)) _ _ _); (k_here; (with_reducible show wpAny _ _ (subscriptTail _ (PySem.Expr.Slice none none (some _) _) (Value.ref _) (Value.ref _)) _ _ _); k_dflt (refine' txt_rev (s := ⟨_, _, _, _, _⟩) ?FQz ?NQz ?mQz ?xQz ?zQz ?kQz ?_ ?sQz ?tQz; (case FQz => k_asm); (case NQz => k_asm); (case mQz => k_mem); (case xQz => assumption); (case zQz => omega); (case kQz => exact IsPart.int _ _); (case sQz => with_unfolding_all rfl); (case tQz => (intro _; with_unfolding_all rfl)); k_whole); intro D' h' ws F' N' l1 hs9; (try k_lt l1); (try k_sweep))) | ((with_reducible show wpAny _ _ (binaryOp Operator.Add (Value.ref _) (Value.ref _)) _ _ _); (k_here; (with_reducible show wpAny _ _ (binaryOp _ (Value.ref _) (Value.ref _)) _ _ _); k_dflt (refine' txt_add ?k1Qz ?k2Qz ?k3Qz ?k4Qz ?k5Qz ?k6Qz ?k7Qz ?_; (case k1Qz => k_asm); (case k2Qz => k_asm); (case k3Qz => k_mem); (case k4Qz => assumption); (case k5Qz => k_mem); (case k6Qz => assumption); (case k7Qz => omega); k_whole); intro D' h' F' N' l1 hs9; (try k_lt l1); (try k_sweep))) | ((with_reducible show wpAny _ _ (call (Value.builtin "list.insert") _) _ _ _); (k_here; (try dsimp only [List.cons_append, List.nil_append]); (with_reducible show wpAny _ _ (call (Value.builtin _) [Value.ref _, Value.int 0 _, Value.str _ _]) _ _ _); k_dflt (refine' txt_insert0 ?k1Qz ?k2Qz ?k3Qz ?k4Qz ?k5Qz ?_; (case k1Qz => k_asm); (case k2Qz => k_asm); (case k5Qz => k_upd); (case k3Qz => assumption); (case k4Qz => omega); k_whole); intro h' F' N' hs9; (try k_sweep))) | ((with_reducible show wpAny _ _ (call (Value.builtin "list.pop") _) _ _ _); (k_here; (try dsimp only [List.cons_append, List.nil_append]); (with_reducible show wpAny _ _ (call (Value.builtin _) [Value.ref _]) _ _ _); k_dflt (refine' txt_pop ?k1Qz ?k2Qz ?k3Qz ?k6Qz ?k4Qz ?k5Qz ?_; (case k1Qz => k_asm); (case k2Qz => k_asm); (case k5Qz => k_upd); (case k3Qz => assumption); (case k4Qz => omega); (case k6Qz => first | assumption | exact ne1 (by assumption) | exact ne2 (by assumption)); k_whole); intro h' t9 F' N' hs9; (try k_sweep))) | ((with_reducible show wpAny _ _ (call (Value.builtin "list.append") _) _ _ _); (k_here; (try dsimp only [List.cons_append, List.nil_append]); (with_reducible show wpAny _ _ (call (Value.builtin _) [Value.ref _, Value.str _ _]) _ _ _); k_dflt (refine' txt_append ?k1Qz ?k2Qz ?k3Qz ?k4Qz ?k5Qz ?_; (case k1Qz => k_asm); (case k2Qz => k_asm); (case k5Qz => k_upd); (case k3Qz => assumption); (case k4Qz => omega); k_whole); intro h' F' N' hs9; (try k_sweep))) | ((with_reducible show wpAny _ _ (call (Value.builtin "str.join") _) _ _ _); (k_here; (try dsimp only [List.cons_append, List.nil_append]); (with_reducible show wpAny _ _ (call (Value.builtin _) [Value.str _ _, Value.ref _]) _ _ _); k_dflt (refine' txt_join ?k1Qz ?k2Qz ?k3Qz ?k4Qz ?_; (case k1Qz => k_asm); (case k2Qz => k_mem); (case k3Qz => assumption); (case k4Qz => first | assumption | omega); k_whole); intro t9 k9)) | ((with_reducible show wpAny _ _ (call (Value.builtin "len") _) _ _ _); (k_here; (with_reducible show wpAny _ _ (call (Value.builtin _) [Value.ref _]) _ _ _); k_dflt (refine' txt_len ?k1Qz ?k2Qz ?k3Qz ?k4Qz ?_; (case k1Qz => k_asm); (case k2Qz => k_mem); (case k3Qz => assumption); (case k4Qz => omega); k_whole))) | ((with_reducible show wpAny _ _ (truthy (Value.ref _)) _ _ _); (k_here; k_dflt (refine' txt_truthy ?k1Qz ?k2Qz ?k3Qz ?k4Qz ?_; (case k1Qz => k_asm); (case k2Qz => k_mem); (case k3Qz => assumption); (case k4Qz => omega); k_whole))) | ((with_reducible show wpAny _ _ (subscriptTail _ _ (Value.ref _) (Value.int _ _)) _ _ _); (k_here; (with_reducible show wpAny _ _ (subscriptTail _ _ (Value.ref _) (Value.int (-1) _)) _ _ _); k_dflt (refine' txt_last ?k1Qz ?k2Qz ?k3Qz ?k4Qz ?_ ?k5Qz ?k6Qz; (case k1Qz => k_asm); (case k2Qz => k_mem); (case k3Qz => assumption); (case k4Qz => first | assumption | exact ne1 (by assumption) | exact ne2 (by assumption)); (case k5Qz => with_unfolding_all rfl); (case k6Qz => (intro _; with_unfolding_all rfl)); k_whole); intro t9)) | ((with_reducible show wpAny _ _ (binaryOp Operator.Add (Value.str _ _) (Value.str _ _)) _ _ _); ((with_reducible show wpAny _ _ (binaryOp Operator.Add (Value.str _ _) (Value.str _ _)) _ _ _); (refine SB.add (hsz := ?hszQz) ?_); (case hszQz => (rw [PySem.sizeLine_eq]; (try simp only [Str.length_append]); omega)); intro t9 k9)) | ((with_reducible show wpAny _ _ (call (Value.builtin "list.append") _) _ _ _); (k_here; (try dsimp only [List.cons_append, List.nil_append]); (with_reducible show wpAny _ _ (call (Value.builtin _) [Value.ref _, _]) _ _ _); k_dflt (refine' append_K ?k1Qz ?k2Qz ?k3Qz ?_ ?zQz; (case k1Qz => k_asm); (case k2Qz => k_asm); (case k3Qz => k_upd); (case zQz => size_fits); k_whole); intro h' F' N'; (try k_sweep))) | ((with_reducible show wpAny _ _ (execs [] _) _ _ _); (k_here; (with_reducible refine wpAny_execs_nil ?_); (try dsimp only))) | ((with_reducible show wpAny _ _ (execs (_ :: _) _) _ _ _); (k_here; (with_reducible refine wpAny_execs_cons ?_); (try dsimp only))) | walk1) <;> (try dsimp only)))
        (try dsimp only)
        (try k_unfold)
        rename Fr _ _ _ _ => F10
        rename News _ _ _ _ => N10
        exact LCg.CompEnd.intro F10 N10 _ (fun p hp => hp) off (.inr ⟨_, .head _, rfl, _, rfl⟩) ⟨rfl, by rw [hft]; exact hJ⟩
      · rw [if_neg he] at hft
        repeat' ((fail_if_success (with_reducible show wpAny _ _ (pyIter _) _ _ _)); ((first | ((with_reducible show wpAny _ _ (call (Value.ref 194) _) _ _ _); (k_here; (try simp only [List.append_nil]); (with_reducible show wpAny _ _ (call (Value.ref 194) _) _ _ _); k_dflt (refine' Tells.useC ?k1Qz ?k2Qz ?k3Qz ?k4Qz ?k5Qz ?k6Qz ?kcQz ?k7Qz ?k8Qz ?k9Qz ?_; (case k1Qz => k_asm); (case k2Qz => k_asm); (case k3Qz => k_asm); (case k4Qz => k_asm); (case k5Qz => k_asm); (case kcQz => exact climb_ok _ _ _ _ _ (by k_mem) (by assumption) (by assumption) (by omega)); (case k6Qz => first | exact rfl | assumption); (case k7Qz => ktr_room); (case k8Qz => ktr_units); (case k9Qz => first | exact Nat.zero_le _ | ((try dsimp only); omega)); k_whole); intro D9 h9 tk9 t9 l9 ws9 c9 F9 N9 htk9 hs9)) | ((with_reducible show wpAny _ _ (compareOp CmpOp.Eq (Value.ref _) (Value.ref _)) _ _ _); (k_here; k_dflt (refine' pair_eq ?k1Qz ?m1Qz ?m2Qz ?x1Qz ?m3Qz ?m4Qz ?x2Qz ?eaQz ?exQz ?oaQz ?oxQz ?huQz ?_; (case k1Qz => k_asm); (case m1Qz => k_mem); (case m3Qz => k_mem); (case m2Qz => k_mem); (case m4Qz => k_mem); (case x1Qz => assumption); (case x2Qz => assumption); (case eaQz => assumption); (case exQz => assumption); (case oaQz => assumption); (case oxQz => assumption); (case huQz => ke_room); k_whole))) | ((with_reducible show wpAny _ _ (binaryOp Operator.Add (Value.ref _) (Value.ref _)) _ _ _); (k_here; (with_reducible show wpAny _ _ (binaryOp _ (Value.ref _) (Value.ref _)) _ _ _); k_dflt (refine' txt_add1 ?k1Qz ?k2Qz ?k3Qz ?k4Qz ?k5Qz ?k7Qz ?_; (case k1Qz => k_asm); (case k2Qz => k_asm); (case k5Qz => k_mem); (case k3Qz => k_mem); (case k4Qz => assumption); (case k7Qz => omega); k_whole); intro D' h' F' N' l1 hs9; (try k_lt l1); (try k_sweep))) | ((with_reducible show wpAny _ _ (compareOp CmpOp.NotEq (Value.str _ _) (Value.str _ _)) _ _ _); (k_here; k_dflt (refine' ne_str_no ?k1Qz ?_; (case k1Qz => assumption); k_whole))) | ((with_reducible show wpAny _ _ (compareOp CmpOp.NotEq (Value.str _ _) (Value.str _ _)) _ _ _); (k_here; k_dflt (refine' ne_str_yes ?k1Qz ?_; (case k1Qz => assumption); k_whole))) | ((with_reducible show wpAny _ _ (eval (PySem.Expr.ListComp _ _ _ _) _) _ _ _); (k_here; (with_reducible show wpAny _ _ (eval (PySem.Expr.ListComp _ _ _ _) _) _ _ _); k_dflt (refine LCt.ListComp_T (F₀ := by k_asm) (by rfl) (by decide) (by rfl) (by decide) (by rfl) ?_))) | ((with_reducible show wpAny _ _ (call (Value.ref 187) _) _ _ _); (k_here; (try simp only [List.append_nil]); (with_reducible show wpAny _ _ (call (Value.ref 187) _) _ _ _); k_dflt (refine' Tells.useS ?k1Qz ?k2Qz ?k3Qz ?k4Qz ?k5Qz ?k6Qz ?kcQz ?k7Qz ?k8Qz ?k9Qz ?_; (case k1Qz => k_asm); (case k2Qz => k_asm); (case k3Qz => k_asm); (case k4Qz => k_asm); (case k5Qz => k_asm); (case kcQz => exact plain_ok _ _ _ _ _ _ (by assumption) (by k_mem) _ _ _ _ (by k_mem) (by assumption) (by assumption) (by omega) (by omega)); (case k6Qz => first | exact rfl | assumption); (case k7Qz => ktr_room); (case k8Qz => ktr_units); (case k9Qz => first | exact Nat.zero_le _ | ((try dsimp only); omega)); k_whole; intro t9 h9 tk9 F9 N9 htk9))) | ((with_reducible show wpAny _ _ (call (Value.ref 161) _) _ _ _); (k_here; (try simp only [List.append_nil]); (with_reducible show wpAny _ _ (call (Value.ref 161) _) _ _ _); k_dflt (refine' Tells.useS ?k1Qz ?k2Qz ?k3Qz ?k4Qz ?k5Qz ?k6Qz ?kcQz ?k7Qz ?k8Qz ?k9Qz ?_; (case k1Qz => k_asm); (case k2Qz => k_asm); (case k3Qz => k_asm); (case k4Qz => k_asm); (case k5Qz => k_asm); (case kcQz => exact norm_ok _ _ (by omega) (by omega)); (case k6Qz => first | exact rfl | assumption); (case k7Qz => ktr_room); (case k8Qz => ktr_units); (case k9Qz => first | exact Nat.zero_le _ | ((try dsimp only); omega)); k_whole; intro t9 h9 tk9 F9 N9 htk9))) | ((with_reducible show wpAny _ _ (compareOp CmpOp.NotEq (Value.bool _) (Value.bool _)) _ _ _); (k_here; k_dflt (refine' ne_bool_no ?k1Qz ?_; (case k1Qz => first | assumption | exact rfl); k_whole))) | ((with_reducible show wpAny _ _ (compareOp CmpOp.NotEq (Value.str _ _) (Value.str _ _)) _ _ _); (k_here; k_dflt (refine' ne_str_no ?k1Qz ?_; (case k1Qz => assumption); k_whole))) | ((with_reducible show StarOf _ _ _ (Value.ref _) _ _); (k_here; k_dflt (refine' txt_star ?k1Qz ?k2Qz ?k3Qz ?k4Qz ?k5Qz ?_; (case k1Qz => k_asm); (case k2Qz => k_asm); (case k3Qz => k_mem); (case k4Qz => assumption); (case k5Qz => omega); k_whole); intro h' F' N'; (try k_sweep); (try simp only [List.nil_append, List.cons_append, List.append_nil]))) | ((with_reducible show wpAny _ _ (subscriptTail _ _ (Value.ref _) (Value.int _ _)) _ _ _); (k_here; (with_reducible show wpAny _ _ (subscriptTail _ _ (Value.ref _) (Value.int 0 _)) _ _ _); k_dflt (refine' txt_first ?k1Qz ?k2Qz ?k3Qz ?k4Qz ?_ ?k5Qz ?k6Qz; (case k1Qz => k_asm); (case k2Qz => k_mem); (case k3Qz => assumption); (case k4Qz => assumption); (case k5Qz => with_unfolding_all rfl); (case k6Qz => (intro _; with_unfolding_all rfl)); k_whole); intro t9)) | ((with_reducible show wpAny _ _ (compareOp CmpOp.NotIn (Value.str _ _) (Value.ref _)) _ _ _); (k_here; k_dflt (refine' row_notin ?k1Qz ?k2Qz ?k3Qz ?k4Qz ?k5Qz ?_; (case k1Qz => k_asm); (case k2Qz => k_mem); (case k3Qz => exact RowsOk.keys (by assumption)); (case k4Qz => assumption); (case k5Qz => assumption); k_whole))) | ((with_reducible show wpAny _ _ (call (Value.builtin "str.split") _) _ _ _); (k_here; (try dsimp only [List.cons_append, List.nil_append]); (with_reducible show wpAny _ _ (call (Value.builtin _) [Value.str _ _, Value.str _ _]) _ _ _); k_dflt (refine' txt_split ?k1Qz ?k2Qz ?k3Qz ?k4Qz ?_; (case k1Qz => k_asm); (case k2Qz => k_asm); (case k3Qz => rfl); (case k4Qz => omega); k_whole); intro D' h' ws k9 F' N' l1 hs9; (try k_lt l1); (try k_sweep))) | ((with_reducible show wpAny _ _ (subscriptTail _ (PySem.Expr.Slice _ _ _ _) (Value.ref _) (Value.ref _)) _ _ _); (k_here; (with_reducible show wpAny _ _ (subscriptTail _ (PySem.Expr.Slice _ _ none _) (Value.ref _) (Value.ref _)) _ _ _); k_dflt (refine' txt_slice (s := ⟨_, _, _, _, _⟩) ?FQz ?NQz ?mQz ?xQz ?zQz ?pQz ?qQz ?yQz ?_ ?sQz ?tQz; (case FQz => k_asm); (case NQz => k_asm); (case mQz => k_mem); (case xQz => assumption); (case zQz => omega); (case pQz => first | exact IsPart.none | exact IsPart.int _ _); (case qQz => first | exact IsPart.none | exact IsPart.int _ _); (case yQz => first | exact pick_upto1 (by assumption) | exact pick_run1 (by assumption) (by omega) | exact pick_from (by assumption) (by omega)); (case sQz => with_unfolding_all rfl); (case tQz => (intro _; with_unfolding_all rfl)); k_whole); intro D' h' ws F' N' l1 hs9; (try k_lt l1); (try k_sweep))) | ((with_reducible show wpAny _ _ (subscriptTail _ (PySem.Expr.Slice _ _ _ _) (Value.ref _) (Value.ref _)) _ _ _); (k_here; (with_reducible show wpAny _ _ (subscriptTail _ (PySem.Expr.Slice none none (some _) _) (Value.ref _) (Value.ref _)) _ _ _); k_dflt (refine' txt_rev (s := ⟨_, _, _, _, _⟩) ?FQz ?NQz ?mQz ?xQz ?zQz ?kQz ?_ ?sQz ?tQz; (case FQz => k_asm); (case NQz => k_asm); (case mQz => k_mem); (case xQz => assumption); (case zQz => omega); (case kQz => exact IsPart.int _ _); (case sQz => with_unfolding_all rfl); (case tQz => (intro _; with_unfolding_all rfl)); k_whole); intro D' h' ws F' N' l1 hs9; (try k_lt l1); (try k_sweep))) | ((with_reducible show wpAny _ _ (binaryOp Operator.Add (Value.ref _) (Value.ref _)) _ _ _); (k_here; (with_reducible show wpAny _ _ (binaryOp _ (Value.ref _) (Value.ref _)) _ _ _); k_dflt (refine' txt_add ?k1Qz ?k2Qz ?k3Qz ?k4Qz ?k5Qz ?k6Qz ?k7Qz ?_; (case k1Qz => k_asm); (case k2Qz => k_asm); (case k3Qz => k_mem); (case k4Qz => assumption); (case k5Qz => k_mem); (case k6Qz => assumption); (case k7Qz => omega); k_whole); intro D' h' F' N' l1 hs9; (try k_lt l1); (try k_sweep))) | ((with_reducible show wpAny _ _ (call (Value.builtin "list.insert") _) _ _ _); (k_here; (try dsimp only [List.cons_append, List.nil_append]); (with_reducible show wpAny _ _ (call (Value.builtin _) [Value.ref _, Value.int 0 _, Value.str _ _]) _ _ _); k_dflt (refine' txt_insert0 ?k1Qz ?k2Qz ?k3Qz ?k4Qz ?k5Qz ?_; (case k1Qz => k_asm); (case k2Qz => k_asm); (case k5Qz => k_upd); (case k3Qz => assumption); (case k4Qz => omega); k_whole); intro h' F' N' hs9; (try k_sweep))) | ((with_reducible show wpAny _ _ (call (Value.builtin "list.pop") _) _ _ _); (k_here; (try dsimp only [List.cons_append, List.nil_append]); (with_reducible show wpAny _ _ (call (Value.builtin _) [Value.ref _]) _ _ _); k_dflt (refine' txt_pop ?k1Qz ?k2Qz ?k3Qz ?k6Qz ?k4Qz ?k5Qz ?_; (case k1Qz => k_asm); (case k2Qz => k_asm); (case k5Qz => k_upd); (case k3Qz => assumption); (case k4Qz => omega); (case k6Qz => first | assumption | exact ne1 (by assumption) | exact ne2 (by assumption)); k_whole); intro h' t9 F' N' hs9; (try k_sweep))) | ((with_reducible show wpAny _ _ (call (Value.builtin "list.append") _) _ _ _); (k_here; (try dsimp only [List.cons_append, List.nil_append]); (with_reducible show wpAny _ _ (call (Value.builtin _) [Value.ref _, Value.str _ _]) _ _ _); k_dflt (refine' txt_append ?k1Qz ?k2Qz ?k3Qz ?k4Qz ?k5Qz ?_; (case k1Qz => k_asm); (case k2Qz => k_asm); (case k5Qz => k_upd); (case k3Qz => assumption); (case k4Qz => omega); k_whole); intro h' F' N' hs9; (try k_sweep))) | ((with_reducible show wpAny _ _ (call (Value.builtin "str.join") _) _ _ _); (k_here; (try dsimp only [List.cons_append, List.nil_append]); (with_reducible show wpAny _ _ (call (Value.builtin _) [Value.str _ _, Value.ref _]) _ _ _); k_dflt (refine' txt_join ?k1Qz ?k2Qz ?k3Qz ?k4Qz ?_; (case k1Qz => k_asm); (case k2Qz => k_mem); (case k3Qz => assumption); (case k4Qz => first | assumption | omega); k_whole); intro t9 k9)) | ((with_reducible show wpAny _ _ (call (Value.builtin "len") _) _ _ _); (k_here; (with_reducible show wpAny _ _ (call (Value.builtin _) [Value.ref _]) _ _ _); k_dflt (refine' txt_len ?k1Qz ?k2Qz ?k3Qz ?k4Qz ?_; (case k1Qz => k_asm); (case k2Qz => k_mem); (case k3Qz => assumption); (case k4Qz => omega); k_whole))) | ((with_reducible show wpAny _ _ (truthy (Value.ref _)) _ _ _); (k_here; k_dflt (refine' txt_truthy ?k1Qz ?k2Qz ?k3Qz ?k4Qz ?_; (case k1Qz => k_asm); (case k2Qz => k_mem); (case k3Qz => assumption); (case k4Qz => omega); k_whole))) | ((with_reducible show wpAny _ _ (subscriptTail _ _ (Value.ref _) (Value.int _ _)) _ _ _); (k_here; (with_reducible show wpAny _ _ (subscriptTail _ _ (Value.ref _) (Value.int (-1) _)) _ _ _); k_dflt (refine' txt_last ?k1Qz ?k2Qz ?k3Qz ?k4Qz ?_ ?k5Qz ?k6Qz; (case k1Qz => k_asm); (case k2Qz => k_mem); (case k3Qz => assumption); (case k4Qz => first | assumption | exact ne1 (by assumption) | exact ne2 (by assumption)); (case k5Qz => with_unfolding_all rfl); (case k6Qz => (intro _; with_unfolding_all rfl)); k_whole); intro t9)) | ((with_reducible show wpAny _ _ (binaryOp Operator.Add (Value.str _ _) (Value.str _ _)) _ _ _); ((with_reducible show wpAny _ _ (binaryOp Operator.Add (Value.str _ _) (Value.str _ _)) _ _ _); (refine SB.add (hsz := ?hszQz) ?_); (case hszQz => (rw [PySem.sizeLine_eq]; (try simp only [Str.length_append]); omega)); intro t9 k9)) | ((with_reducible show wpAny _ _ (call (Value.builtin "list.append") _) _ _ _); (k_here; (try dsimp only [List.cons_append, List.nil_append]); (with_reducible show wpAny _ _ (call (Value.builtin _) [Value.ref _, _]) _ _ _); k_dflt (refine' append_K ?k1Qz ?k2Qz ?k3Qz ?_ ?zQz; (case k1Qz => k_asm); (case k2Qz => k_asm); (case k3Qz => k_upd); (case zQz => size_fits); k_whole); intro h' F' N'; (try k_sweep))) | ((with_reducible show wpAny _ _ (execs [] _) _ _ _); (k_here; (with_reducible refine wpAny_execs_nil ?_); (try dsimp only))) | ((with_reducible show wpAny _ _ (execs (_ :: _) _) _ _ _); (k_here; (with_reducible refine wpAny_execs_cons ?_); (try dsimp only))) | walk1) <;> (try dsimp only)))
        (try dsimp only)
        (try k_unfold)
        rename Fr _ _ _ _ => F10
        rename News _ _ _ _ => N10
        exact LCg.CompEnd.intro F10 N10 _ (fun p hp => hp) off (.inr ⟨_, .head _, rfl, _, rfl⟩) ⟨rfl, by rw [hft]; exact snoc_strs hJ _ _⟩
    · intro ys hJ
      (try clear F8); (try clear N8)
      replace hJ : StrsAre ys (ps.dropLast.filter (fun p => p != Str.ofString "")) := by rw [List.take_of_length_le (by rw [List.size_toArray, hsd.len_eq]; exact Nat.le_refl _)] at hJ; exact hJ
      have hfl2 : (ps.dropLast.filter (fun p => p != Str.ofString "")).length ≤ 1000 := Nat.le_trans (List.length_filter_le _ _) hpdl
      have hc1 : (climbT p qb).1 = f := by rw [hm5]
      have hc2 : (climbT p qb).2 = ps.dropLast.filter (fun p => p != Str.ofString "") ++ [ps.getLastD default] := by rw [hm5]; rfl
      have hox : ∀ y ∈ ps.dropLast.filter (fun p => p != Str.ofString "") ++ [ps.getLastD default], OkS y := keptS_ok hop
      intro DK hK tkK FK NK offK
      dsimp only at FK NK ⊢
      unfold LCg.lst at NK
      repeat' ((fail_if_success (with_reducible show wpAny _ _ (pyIter _) _ _ _)); ((first | ((with_reducible show wpAny _ _ (call (Value.ref 194) _) _ _ _); (k_here; (try simp only [List.append_nil]); (with_reducible show wpAny _ _ (call (Value.ref 194) _) _ _ _); k_dflt (refine' Tells.useC ?k1Qz ?k2Qz ?k3Qz ?k4Qz ?k5Qz ?k6Qz ?kcQz ?k7Qz ?k8Qz ?k9Qz ?_; (case k1Qz => k_asm); (case k2Qz => k_asm); (case k3Qz => k_asm); (case k4Qz => k_asm); (case k5Qz => k_asm); (case kcQz => exact climb_ok _ _ _ _ _ (by k_mem) (by assumption) (by assumption) (by omega)); (case k6Qz => first | exact rfl | assumption); (case k7Qz => ktr_room); (case k8Qz => ktr_units); (case k9Qz => first | exact Nat.zero_le _ | ((try dsimp only); omega)); k_whole); intro D9 h9 tk9 t9 l9 ws9 c9 F9 N9 htk9 hs9)) | ((with_reducible show wpAny _ _ (compareOp CmpOp.Eq (Value.ref _) (Value.ref _)) _ _ _); (k_here; k_dflt (refine' pair_eq ?k1Qz ?m1Qz ?m2Qz ?x1Qz ?m3Qz ?m4Qz ?x2Qz ?eaQz ?exQz ?oaQz ?oxQz ?huQz ?_; (case k1Qz => k_asm); (case m1Qz => k_mem); (case m3Qz => k_mem); (case m2Qz => k_mem); (case m4Qz => k_mem); (case x1Qz => assumption); (case x2Qz => assumption); (case eaQz => assumption); (case exQz => assumption); (case oaQz => assumption); (case oxQz => assumption); (case huQz => ke_room); k_whole))) | ((with_reducible show wpAny _ _ (binaryOp Operator.Add (Value.ref _) (Value.ref _)) _ _ _); (k_here; (with_reducible show wpAny _ _ (binaryOp _ (Value.ref _) (Value.ref _)) _ _ _); k_dflt (refine' txt_add1 ?k1Qz ?k2Qz ?k3Qz ?k4Qz ?k5Qz ?k7Qz ?_; (case k1Qz => k_asm); (case k2Qz => k_asm); (case k5Qz => k_mem); (case k3Qz => k_mem); (case k4Qz => assumption); (case k7Qz => omega); k_whole); intro D' h' F' N' l1 hs9; (try k_lt l1); (try k_sweep))) | ((with_reducible show wpAny _ _ (compareOp CmpOp.NotEq (Value.str _ _) (Value.str _ _)) _ _ _); (k_here; k_dflt (refine' ne_str_no ?k1Qz ?_; (case k1Qz => assumption); k_whole))) | ((with_reducible show wpAny _ _ (compareOp CmpOp.NotEq (Value.str _ _) (Value.str _ _)) _ _ _); (k_here; k_dflt (refine' ne_str_yes ?k1Qz ?_; (case k1Qz => assumption); k_whole))) | ((with_reducible show wpAny _ _ (eval (PySem.Expr.ListComp _ _ _ _) _) _ _ _); (k_here; (with_reducible show wpAny _ _ (eval (PySem.Expr.ListComp _ _ _ _) _) _ _ _); k_dflt (refine LCt.ListComp_T (F₀ := by k_asm) (by rfl) (by decide) (by rfl) (by decide) (by rfl) ?_))) | ((with_reducible show wpAny _ _ (call (Value.ref 187) _) _ _ _); (k_here; (try simp only [List.append_nil]); (with_reducible show wpAny _ _ (call (Value.ref 187) _) _ _ _); k_dflt (refine' Tells.useS ?k1Qz ?k2Qz ?k3Qz ?k4Qz ?k5Qz ?k6Qz ?kcQz ?k7Qz ?k8Qz ?k9Qz ?_; (case k1Qz => k_asm); (case k2Qz => k_asm); (case k3Qz => k_asm); (case k4Qz => k_asm); (case k5Qz => k_asm); (case kcQz => exact plain_ok _ _ _ _ _ _ (by assumption) (by k_mem) _ _ _ _ (by k_mem) (by assumption) (by assumption) (by omega) (by omega)); (case k6Qz => first | exact rfl | assumption); (case k7Qz => ktr_room); (case k8Qz => ktr_units); (case k9Qz => first | exact Nat.zero_le _ | ((try dsimp only); omega)); k_whole; intro t9 h9 tk9 F9 N9 htk9))) | ((with_reducible show wpAny _ _ (call (Value.ref 161) _) _ _ _); (k_here; (try simp only [List.append_nil]); (with_reducible show wpAny _ _ (call (Value.ref 161) _) _ _ _); k_dflt (refine' Tells.useS ?k1Qz ?k2Qz ?k3Qz ?k4Qz ?k5Qz ?k6Qz ?kcQz ?k7Qz ?k8Qz ?k9Qz ?_; (case k1Qz => k_asm); (case k2Qz => k_asm); (case k3Qz => k_asm); (case k4Qz => k_asm); (case k5Qz => k_asm); (case kcQz => exact norm_ok _ _ (by omega) (by omega)); (case k6Qz => first | exact rfl | assumption); (case k7Qz => ktr_room); (case k8Qz => ktr_units); (case k9Qz => first | exact Nat.zero_le _ | ((try dsimp only); omega)); k_whole; intro t9 h9 tk9 F9 N9 htk9))) | ((with_reducible show wpAny _ _ (compareOp CmpOp.NotEq (Value.bool _) (Value.bool _)) _ _ _); (k_here; k_dflt (refine' ne_bool_no ?k1Qz ?_; (case k1Qz => first | assumption | exact rfl); k_whole))) | ((with_reducible show wpAny _ _ (compareOp CmpOp.NotEq (Value.str _ _) (Value.str _ _)) _ _ _); (k_here; k_dflt (refine' ne_str_no ?k1Qz ?_; (case k1Qz => assumption); k_whole))) | ((with_reducible show StarOf _ _ _ (Value.ref _) _ _); (k_here; k_dflt (refine' txt_star ?k1Qz ?k2Qz ?k3Qz ?k4Qz ?k5Qz ?_; (case k1Qz => k_asm); (case k2Qz => k_asm); (case k3Qz => k_mem); (case k4Qz => assumption); (case k5Qz => omega); k_whole); intro h' F' N'; (try k_sweep); (try simp only [List.nil_append, List.cons_append, List.append_nil]))) | ((with_reducible show wpAny _ _ (subscriptTail _ _ (Value.ref _) (Value.int _ _)) _ _ _); (k_here; (with_reducible show wpAny _ _ (subscriptTail _ _ (Value.ref _) (Value.int 0 _)) _ _ _); k_dflt (refine' txt_first ?k1Qz ?k2Qz ?k3Qz ?k4Qz ?_ ?k5Qz ?k6Qz; (case k1Qz => k_asm); (case k2Qz => k_mem); (case k3Qz => assumption); (case k4Qz => assumption); (case k5Qz => with_unfolding_all rfl); (case k6Qz => (intro _; with_unfolding_all rfl)); k_whole); intro t9)) | ((with_reducible show wpAny _ _ (compareOp CmpOp.NotIn (Value.str _ _) (Value.ref _)) _ _ _); (k_here; k_dflt (refine' row_notin ?k1Qz ?k2Qz ?k3Qz ?k4Qz ?k5Qz ?_; (case k1Qz => k_asm); (case k2Qz => k_mem); (case k3Qz => exact RowsOk.keys (by assumption)); (case k4Qz => assumption); (case k5Qz => assumption); k_whole))) | ((with_reducible show wpAny _ _ (call (Value.builtin "str.split") _) _ _ _); (k_here; (try dsimp only [List.cons_append, List.nil_append]); (with_reducible show wpAny _ _ (call (Value.builtin _) [Value.str _ _, Value.str _ _]) _ _ _); k_dflt (refine' txt_split ?k1Qz ?k2Qz ?k3Qz ?k4Qz ?_; (case k1Qz => k_asm); (case k2Qz => k_asm); (case k3Qz => rfl); (case k4Qz => omega); k_whole); intro D' h' ws k9 F' N' l1 hs9; (try k_lt l1); (try k_sweep))) | ((with_reducible show wpAny _ _ (subscriptTail _ (PySem.Expr.Slice _ _ _ _) (Value.ref _) (Value.ref _)) _ _ _); (k_here; (with_reducible show wpAny _ _ (subscriptTail _ (PySem.Expr.Slice _ _ none _) (Value.ref _) (Value.ref _)) _ _ _); k_dflt (refine' txt_slice (s := ⟨_, _, _, _, _⟩) ?FQz ?NQz ?mQz ?xQz ?zQz ?pQz ?qQz ?yQz ?_ ?sQz ?tQz; (case FQz => k_asm); (case NQz => k_asm); (case mQz => k_mem); (case xQz => assumption); (case zQz => omega); (case pQz => first | exact IsPart.none | exact IsPart.int _ _); (case qQz => first | exact IsPart.none | exact IsPart.int _ _); (case yQz => first | exact pick_upto1 (by assumption) | exact pick_run1 (by assumption) (by omega) | exact pick_from (by assumption) (by omega)); (case sQz => with_unfolding_all rfl); (case tQz => (intro _; with_unfolding_all rfl)); k_whole); intro D' h' ws F' N' l1 hs9; (try k_lt l1); (try k_sweep))) | ((with_reducible show wpAny _ _ (subscriptTail _ (PySem.Expr.Slice _ _ _ _) (Value.ref _) (Value.ref _)) _ _ _); (k_here; (with_reducible show wpAny _ _ (subscriptTail _ (PySem.Expr.Slice none none (some _) _) (Value.ref _) (Value.ref _)) _ _ _); k_dflt (refine' txt_rev (s := ⟨_, _, _, _, _⟩) ?FQz ?NQz ?mQz ?xQz ?zQz ?kQz ?_ ?sQz ?tQz; (case FQz => k_asm); (case NQz => k_asm); (case mQz => k_mem); (case xQz => assumption); (case zQz => omega); (case kQz => exact IsPart.int _ _); (case sQz => with_unfolding_all rfl); (case tQz => (intro _; with_unfolding_all rfl)); k_whole); intro D' h' ws F' N' l1 hs9; (try k_lt l1); (try k_sweep))) | ((with_reducible show wpAny _ _ (binaryOp Operator.Add (Value.ref _) (Value.ref _)) _ _ _); (k_here; (with_reducible show wpAny _ _ (binaryOp _ (Value.ref _) (Value.ref _)) _ _ _); k_dflt (refine' txt_add ?k1Qz ?k2Qz ?k3Qz ?k4Qz ?k5Qz ?k6Qz ?k7Qz ?_; (case k1Qz => k_asm); (case k2Qz => k_asm); (case k3Qz => k_mem); (case k4Qz => assumption); (case k5Qz => k_mem); (case k6Qz => assumption); (case k7Qz => omega); k_whole); intro D' h' F' N' l1 hs9; (try k_lt l1); (try k_sweep))) | ((with_reducible show wpAny _ _ (call (Value.builtin "list.insert") _) _ _ _); (k_here; (try dsimp only [List.cons_append, List.nil_append]); (with_reducible show wpAny _ _ (call (Value.builtin _) [Value.ref _, Value.int 0 _, Value.str _ _]) _ _ _); k_dflt (refine' txt_insert0 ?k1Qz ?k2Qz ?k3Qz ?k4Qz ?k5Qz ?_; (case k1Qz => k_asm); (case k2Qz => k_asm); (case k5Qz => k_upd); (case k3Qz => assumption); (case k4Qz => omega); k_whole); intro h' F' N' hs9; (try k_sweep))) | ((with_reducible show wpAny _ _ (call (Value.builtin "list.pop") _) _ _ _); (k_here; (try dsimp only [List.cons_append, List.nil_append]); (with_reducible show wpAny _ _ (call (Value.builtin _) [Value.ref _]) _ _ _); k_dflt (refine' txt_pop ?k1Qz ?k2Qz ?k3Qz ?k6Qz ?k4Qz ?k5Qz ?_; (case k1Qz => k_asm); (case k2Qz => k_asm); (case k5Qz => k_upd); (case k3Qz => assumption); (case k4Qz => omega); (case k6Qz => first | assumption | exact ne1 (by assumption) | exact ne2 (by assumption)); k_whole); intro h' t9 F' N' hs9; (try k_sweep))) | ((with_reducible show wpAny _ _ (call (Value.builtin "list.append") _) _ _ _); (k_here; (try dsimp only [List.cons_append, List.nil_append]); (with_reducible show wpAny _ _ (call (Value.builtin _) [Value.ref _, Value.str _ _]) _ _ _); k_dflt (refine' txt_append ?k1Qz ?k2Qz ?k3Qz ?k4Qz ?k5Qz ?_; (case k1Qz => k_asm); (case k2Qz => k_asm); (case k5Qz => k_upd); (case k3Qz => assumption); (case k4Qz => omega); k_whole); intro h' F' N' hs9; (try k_sweep))) | ((with_reducible show wpAny _ _ (call (Value.builtin "str.join") _) _ _ _); (k_here; (try dsimp only [List.cons_append, List.nil_append]); (with_reducible show wpAny _ _ (call (Value.builtin _) [Value.str _ _, Value.ref _]) _ _ _); k_dflt (refine' txt_join ?k1Qz ?k2Qz ?k3Qz ?k4Qz ?_; (case k1Qz => k_asm); (case k2Qz => k_mem); (case k3Qz => assumption); (case k4Qz => first | assumption | omega); k_whole); intro t9 k9)) | ((with_reducible show wpAny _ _ (call (Value.builtin "len") _) _ _ _); (k_here; (with_reducible show wpAny _ _ (call (Value.builtin _) [Value.ref _]) _ _ _); k_dflt (refine' txt_len ?k1Qz ?k2Qz ?k3Qz ?k4Qz ?_; (case k1Qz => k_asm); (case k2Qz => k_mem); (case k3Qz => assumption); (case k4Qz => omega); k_whole))) | ((with_reducible show wpAny _ _ (truthy (Value.ref _)) _ _ _); (k_here; k_dflt (refine' txt_truthy ?k1Qz ?k2Qz ?k3Qz ?k4Qz ?_; (case k1Qz => k_asm); (case k2Qz => k_mem); (case k3Qz => assumption); (case k4Qz => omega); k_whole))) | ((with_reducible show wpAny _ _ (subscriptTail _ _ (Value.ref _) (Value.int _ _)) _ _ _); (k_here; (with_reducible show wpAny _ _ (subscriptTail _ _ (Value.ref _) (Value.int (-1) _)) _ _ _); k_dflt (refine' txt_last ?k1Qz ?k2Qz ?k3Qz ?k4Qz ?_ ?k5Qz ?k6Qz; (case k1Qz => k_asm); (case k2Qz => k_mem); (case k3Qz => assumption); (case k4Qz => first | assumption | exact ne1 (by assumption) | exact ne2 (by assumption)); (case k5Qz => with_unfolding_all rfl); (case k6Qz => (intro _; with_unfolding_all rfl)); k_whole); intro t9)) | ((with_reducible show wpAny _ _ (binaryOp Operator.Add (Value.str _ _) (Value.str _ _)) _ _ _); ((with_reducible show wpAny _ _ (binaryOp Operator.Add (Value.str _ _) (Value.str _ _)) _ _ _); (refine SB.add (hsz := ?hszQz) ?_); (case hszQz => (rw [PySem.sizeLine_eq]; (try simp only [Str.length_append]); omega)); intro t9 k9)) | ((with_reducible show wpAny _ _ (call (Value.builtin "list.append") _) _ _ _); (k_here; (try dsimp only [List.cons_append, List.nil_append]); (with_reducible show wpAny _ _ (call (Value.builtin _) [Value.ref _, _]) _ _ _); k_dflt (refine' append_K ?k1Qz ?k2Qz ?k3Qz ?_ ?zQz; (case k1Qz => k_asm); (case k2Qz => k_asm); (case k3Qz => k_upd); (case zQz => size_fits); k_whole); intro h' F' N'; (try k_sweep))) | ((with_reducible show wpAny _ _ (execs [] _) _ _ _); (k_here; (with_reducible refine wpAny_execs_nil ?_); (try dsimp only))) | ((with_reducible show wpAny _ _ (execs (_ :: _) _) _ _ _); (k_here; (with_reducible refine wpAny_execs_cons ?_); (try dsimp only))) | walk1) <;> (try dsimp only)))
      all_goals (rename Fr _ _ _ _ => F9; exact next _ _ _ F9))
theorem path_room {Y : List Nat} {qs qb : List Row4} {NS : List Str} (K : Facts Y qs qb NS) : (joinP ((NS.map (fun x => escT x qs)).headD default) ((NS.map (fun x => escT x qs)).drop (Int.toNat 1))).length ≤ 121 ∧ (joinP (NS.headD default) (NS.drop (Int.toNat 1))).length ≤ 41 ∧ (toldP NS).length ≤ 41 := by
  obtain ⟨hY, hT, hq, hqb, hns0, hnsl, hnss, hok⟩ := K
  have hwl := esc_row_len hY hT hq NS
  have hWl : (NS.map (fun x => escT x qs)).length ≤ 21 := by rw [List.length_map]; exact hnsl
  have hwh := head_room (NS.map (fun x => escT x qs))
  have hnh := head_room NS
  have h1 : (joinP (NS.headD default) (NS.drop (Int.toNat 1))).length ≤ 41 := Nat.le_trans (jFold_len _ _) (by omega)
  refine ⟨Nat.le_trans (jFold_len _ _) (by omega), h1, ?_⟩
  rw [told_join hns0, ← path_is hns0]; exact h1
theorem pieces_ne (x : Str) : piecesP x ≠ [] := by
  intro e
  have := cl_pieces x
  rw [e] at this
  exact spl_ne _ this.symm
theorem front_len (x : Str) : (frontP x).length ≤ x.length := Txt.slice_le _ _ _
theorem pieces_len (x : Str) : ((piecesP x).map (·.length)).sum + (piecesP x).length ≤ x.length + 1 := by
  have h1 := split_room (Txt.slice x (some ((frontP x).length : Int)) none)
  have h2 := Txt.slice_le x (some ((frontP x).length : Int)) none
  unfold piecesP; omega
theorem tail_ok {w : World} {mean : ExcName → Option Value} {mg mb : Str → Option Value} {base h₀ : Heap} {L fa : Addr} {cd : Value} {m₀ : Str → Option Value} {s : Shared} {Q : Flow → Shared → Prop} {E : Value → Shared → Prop} (A0 : Around0 w mean mg mb base h₀) {Y : List Nat} {qs qb : List Row4} {NS : List Str} {d1 d2 D9 : Addr} {e1 e2 c9 : Nat} {ws9 : List Value} {oc : Obj} (K : Facts Y qs qb NS) (hs9 : StrsAre ws9 NS) (hoc : oc.data = .cell (some (.ref d1))) (lo1 : (d1 == sysModules) = false) (lo2 : (d2 == sysModules) = false) {DW : Addr} {cW : Nat} {ys : List Value} (hJ : StrsAre ys (NS.map (fun x => escT x qs)))
    (F : Fr h₀ L s.heap (fun y => if y = Str.ofString "written" then some (.ref DW) else if y = Str.ofString "back" then some (.ref d2) else if y = Str.ofString "names" then some (.ref D9) else m₀ y)) (N : News h₀ L s.heap [(DW, W.listOf ys.toArray cW), (d2, dObj w qb e2), (d1, dObj w qs e1), (D9, W.listOf ws9.toArray c9), (L + 1, oc)])
    (next : ∀ (h' : Heap) (tk' : Nat) (m₁ : Str → Option Value), Fr h₀ L h' m₁ → Q (.ret (.bool true)) { s with heap := h', toks := tk' }) :
    wpAny (model PySem.Challenge.rw_ij0051_01.row.prog w) (callerA.deeper (lawEnv L fa cd)) (execs (lawRec.body.drop 9) (lawEnv L fa cd)) Q E s := by
  obtain ⟨r1, r2, r3⟩ := path_room K
  have r4 := esc_len1 K.hy K.T K.hq (joinP (NS.headD default) (NS.drop (Int.toNat 1)))
  refine seg1 A0 K hs9 hoc lo1 lo2 hJ F N fun h1 tk1 m1 t1 t2 ht1 F1 N1 => ?_
  refine seg2 A0 K hs9 hoc lo1 lo2 (m_told K.hy K.T K.ne) (by omega) ht1 F1 N1 fun h2 tk2 m2 t3 ht2 F2 N2 => ?_
  refine seg3 A0 K hs9 hoc lo1 lo2 (m_image K.hy K.T K.ne) ht2 F2 N2 fun h3 tk3 m3 _ F3 N3 => ?_
  refine seg4 A0 K hs9 hoc lo1 lo2 (by omega) F3 N3 fun h4 tk4 m4 f tf DP vsP cP ps hsP hcase F4 N4 => ?_
  have hsum := K.sum
  have hlen := K.len
  refine hcase.elim (fun hA => ?_) (fun hB => ?_)
  · have h47 := hA.1
    have q3 : OkS (Str.ofString "") := by intro c hc; rw [cl_emp] at hc; cases hc
    have q1 : (Str.ofString "").length ≤ 1000 := by decide
    rw [hA.2.2] at hsP
    rw [hA.2.1] at F4
    exact seg5 A0 K hoc lo1 lo2 hsP (m_normA K.hy K.T K.ne h47) (m_climbA K.hy K.T K.ne h47) q3 K.ok K.ne q1 (by omega) (by omega) F4 N4 next
  · have h47 := hB.1
    rw [hB.2.2] at hsP
    rw [hB.2.1] at F4
    have q1 := front_len (toldP NS)
    have q2 := pieces_len (toldP NS)
    have q3 := told_okS K.ne K.ok
    exact seg5 A0 K hoc lo1 lo2 hsP (m_normB K.hy K.T K.ne h47) (m_climbB K.hy K.T K.ne h47) (front_okS q3) (pieces_okS q3) (pieces_ne _) (by omega) (by omega) (by omega) F4 N4 next
theorem prm.tw7756259884630132659 : True := trivial
set_option Elab.async true in
theorem prm : (fun _ : Program × Program => true) (PySem.Challenge.pw_ij0051_01, VV) = true := by first | k_qdec | rfl
#print axioms prm
section
variable {prog : Program} {w : World} {A : Around} {E : Value → Shared → Prop} {s : Shared} {h₀ : Heap} {L : Addr} {m : Str → Option Value} {news : Led}
/-- the row of ints, whichever it is -/
def OwnPost (s : Shared) (h₀ : Heap) (L : Addr) (m : Str → Option Value) (news : Led) (ns : List Int) (v : Value) (s' : Shared) : Prop :=
  ∃ D h' tk vs, v = .ref D ∧ s' = { s with heap := h', toks := tk } ∧ 1 ≤ tk ∧ Fr h₀ L h' m ∧ News h₀ L h' ((D, W.listOf vs.toArray 0) :: news) ∧ (∀ p ∈ news, p.1 < D) ∧ IntsAre vs ns
theorem OwnPost.intro {ns : List Int} {D : Addr} {h' : Heap} {tk : Nat} {vs : List Value} (h1 : 1 ≤ tk) (F : Fr h₀ L h' m) (N : News h₀ L h' ((D, W.listOf vs.toArray 0) :: news)) (l : AllLt D news) (hI : IntsAre vs ns) :
    OwnPost s h₀ L m news ns (.ref D) { s with heap := h', toks := tk } := ⟨D, h', tk, vs, rfl, rfl, h1, F, N, lt_of_allLt l, hI⟩
theorem own_join {α : Sem Value} {ns : List Int} {ys : List Value} {zs : List Int} {Q : Value → Shared → Prop} (zh : IntsAre ys zs) (e9 : ns = ownP zs.sum) (zF : Fr h₀ L s.heap m) (zN : News h₀ L s.heap news)
    (h1 : wpAny (model prog w) A α (OwnPost s h₀ L m news ns) E s)
    (h2 : ∀ D h' tk vs, 1 ≤ tk → Fr h₀ L h' m → News h₀ L h' ((D, W.listOf vs.toArray 0) :: news) → (∀ p ∈ news, p.1 < D) → IntsAre vs ns → Q (.ref D) { s with heap := h', toks := tk }) :
    wpAny (model prog w) A α Q E s :=
  wpAny_mono h1 (fun v s' ⟨D, h', tk, vs, e1, e2, a, b, c, d, e⟩ => by subst e1 e2; exact h2 D h' tk vs a b c d e) fun _ _ e => e
end
theorem own8 {a b c d e f g h : Tok} : IntsAre [.int 2 a, .int 0 b, .int 3 c, .int 1 d, .int 4 e, .int 0 f, .int 2 g, .int 2 h] [2, 0, 3, 1, 4, 0, 2, 2] := by
  exact .cons _ _ (.cons _ _ (.cons _ _ (.cons _ _ (.cons _ _ (.cons _ _ (.cons _ _ (.cons _ _ .nil)))))))
theorem ownP1 {t : Int} (h : Int.fmod t 3 = 0) : ownP t = [2, 0, 3, 1, 4, 0, 2, 2] := if_pos h
theorem ownP0 {t : Int} (h : ¬ Int.fmod t 3 = 0) : ownP t = [] := if_neg h
theorem walk0 : WalkO VV [Str.ofString "escape", Str.ofString "unescape"] (XL VV []) (InK pre.heap_1) PySem.Challenge.rw_ij0051_01.row.toRowW lawRec [] fun f vs => PySem.call f vs := by
  unfold lawRec recBy
  w_on
  w_strict (
    k_fill
    intro w s₀ s₁ mg mb G Y fa o pm cd doc dV kV ho hd hcd hD hmg hg args vals as hpre hlay hrd hwl hlo
    have KX : (pre.heap_1 w.params).In _ := Y
    k_behind G ho hd hcd hD hmg hpre hlay hrd hwl hlo cd
    (all_goals try k_fold)
    repeat' ((fail_if_success (with_reducible show wpAny _ _ (eval (PySem.Expr.IfExp _ _ _ _) _) _ _ _)); ((first | ((with_reducible show wpAny _ _ (setItem (Value.ref _) (Value.str _ _) _) _ _ _); (k_here; k_dflt (refine' row_set ?k1Qz ?k2Qz ?k3Qz ?k4Qz ?k5Qz ?k6Qz ?_; (case k1Qz => k_asm); (case k2Qz => k_asm); (case k6Qz => k_updF); (case k3Qz => assumption); (case k4Qz => assumption); (case k5Qz => omega); k_whole); intro h' F' N'; (try dsimp only at N'); (try k_sweep))) | ((with_reducible show wpAny _ _ (getItem (Value.ref _) (Value.str _ _)) _ _ _); (k_here; k_dflt (refine' ref_get ?k1Qz ?k2Qz ?k3Qz ?k4Qz ?_; (case k1Qz => k_asm); (case k2Qz => k_mem); (case k3Qz => assumption); (case k4Qz => assumption); k_whole); intro t9 ht91 ht92)) | ((with_reducible show wpAny _ _ (subscriptTail _ _ (Value.ref _) (Value.int _ _)) _ _ _); (k_here; (with_reducible show wpAny _ _ (subscriptTail _ _ (Value.ref _) (Value.int (Int.fmod _ _) _)) _ _ _); k_dflt (refine kba_turn (value' := PySem.Expr.Name (PySem.Str.ofString "q") ⟨0, 0, 0, 0⟩) (fun _ => rfl) ?_); k_dflt (refine' txt_item ?k1Qz ?k2Qz ?k3Qz ?k4Qz ?k5Qz ?k6Qz ?_ ?k7Qz ?k8Qz; (case k1Qz => k_asm); (case k2Qz => k_mem); (case k3Qz => exact strs7); (case k4Qz => omega); (case k5Qz => (simp only [List.length_cons, List.length_nil]; omega)); (case k6Qz => omega); (case k7Qz => with_unfolding_all rfl); (case k8Qz => (intro _; with_unfolding_all rfl)); k_whole); intro t9)) | ((with_reducible show wpAny _ _ (exec (PySem.Stmt.For (PySem.Expr.Name _ _) (PySem.Expr.Subscript _ _ _) _ _ _) _) _ _ _); (k_here; k_dflt (refine' For_text ?_ ?k1Qz; (case k1Qz => intro _; exact rfl); k_whole))) | ((with_reducible show wpAny _ _ (eval (PySem.Expr.Dict [] [] _) _) _ _ _); (k_here; k_dflt (refine' dict_empty_rows ?k1Qz ?k2Qz (modules_low (TopRead.nolimit (by k_asm))) ?_; (case k1Qz => k_asm); (case k2Qz => k_asm); k_whole); intro d' h' F' N' lo' l1; (try k_lt l1); (try k_sweep))) | ((with_reducible show wpAny _ _ (binaryOp Operator.Add (Value.ref _) (Value.ref _)) _ _ _); (k_here; (with_reducible show wpAny _ _ (binaryOp _ (Value.ref _) (Value.ref _)) _ _ _); k_dflt (refine' int_add ?k1Qz ?k2Qz ?k3Qz ?k4Qz ?k5Qz ?k6Qz ?k7Qz ?_; (case k1Qz => k_asm); (case k2Qz => k_asm); (case k3Qz => k_mem); (case k4Qz => assumption); (case k5Qz => k_mem); (case k6Qz => assumption); (case k7Qz => omega); k_whole); intro D' h' F' N' l1 hI'; (try k_lt l1); (try k_sweep))) | ((with_reducible show wpAny _ _ (call (Value.ref 37) _) _ _ _); (k_here; k_dflt (refine' Tells.useS ?k1Qz ?k2Qz ?k3Qz ?k4Qz ?k5Qz ?k6Qz ?kcQz ?k7Qz ?k8Qz ?k9Qz ?_; (case k1Qz => k_asm); (case k2Qz => k_asm); (case k3Qz => k_asm); (case k4Qz => k_asm); (case k5Qz => k_asm); (case kcQz => exact escape_ok _ _ _ _ _ (by k_mem) (by assumption) (by assumption) (by omega)); (case k6Qz => first | exact rfl | assumption); (case k7Qz => ktr_room); (case k8Qz => ktr_units); (case k9Qz => first | exact Nat.zero_le _ | ((try dsimp only); omega)); k_whole; intro t9 h9 tk9 F9 N9 htk9))) | ((with_reducible show wpAny _ _ (exec (PySem.Stmt.For (PySem.Expr.Name _ _) (PySem.Expr.Subscript _ _ _) _ _ _) _) _ _ _); (k_here; (rename Fr _ _ _ _ => lF'); (with_unfolding_all refine' For_invVF lF' ?k1Qz ?k2Qz ?_; (case k1Qz => exact rfl); (case k2Qz => exact rfl); k_whole))) | ((with_reducible show wpAny _ _ (exec (PySem.Stmt.For (PySem.Expr.Name _ _) (PySem.Expr.Call _ _ _ _) _ _ _) _) _ _ _); (k_here; (rename Fr _ _ _ _ => lF'); (with_unfolding_all refine' For_invVF lF' ?k1Qz ?k2Qz ?_; (case k1Qz => exact rfl); (case k2Qz => exact rfl); k_whole))) | ((with_reducible show wpAny _ _ (exec (PySem.Stmt.For (PySem.Expr.Name _ _) (PySem.Expr.Name _ _) _ _ _) _) _ _ _); (k_here; (rename Fr _ _ _ _ => lF'); (with_unfolding_all refine' For_invVF lF' ?k1Qz ?k2Qz ?_; (case k1Qz => exact rfl); (case k2Qz => exact rfl); k_whole))) | ((with_reducible show wpAny _ _ (execs [] _) _ _ _); (k_here; (with_reducible refine wpAny_execs_nil ?_); (try dsimp only))) | ((with_reducible show wpAny _ _ (execs (_ :: _) _) _ _ _); (k_here; (with_reducible refine wpAny_execs_cons ?_); (try dsimp only))) | walk1) <;> (try dsimp only)))
    rename IntsAre _ (List.map _ _) => hI8
    rename List Int => ns0
    rename Fr _ _ _ _ => F1
    rename News _ _ _ _ => N1
    unfold LCg.lst at N1
    refine own_join hI8 rfl F1 N1 ?_ ?_
    · repeat' ((fail_if_success (with_reducible show wpAny _ _ (pyIter _) _ _ _)); ((first | ((with_reducible show wpAny _ _ (setItem (Value.ref _) (Value.str _ _) _) _ _ _); (k_here; k_dflt (refine' row_set ?k1Qz ?k2Qz ?k3Qz ?k4Qz ?k5Qz ?k6Qz ?_; (case k1Qz => k_asm); (case k2Qz => k_asm); (case k6Qz => k_updF); (case k3Qz => assumption); (case k4Qz => assumption); (case k5Qz => omega); k_whole); intro h' F' N'; (try dsimp only at N'); (try k_sweep))) | ((with_reducible show wpAny _ _ (getItem (Value.ref _) (Value.str _ _)) _ _ _); (k_here; k_dflt (refine' ref_get ?k1Qz ?k2Qz ?k3Qz ?k4Qz ?_; (case k1Qz => k_asm); (case k2Qz => k_mem); (case k3Qz => assumption); (case k4Qz => assumption); k_whole); intro t9 ht91 ht92)) | ((with_reducible show wpAny _ _ (subscriptTail _ _ (Value.ref _) (Value.int _ _)) _ _ _); (k_here; (with_reducible show wpAny _ _ (subscriptTail _ _ (Value.ref _) (Value.int (Int.fmod _ _) _)) _ _ _); k_dflt (refine kba_turn (value' := PySem.Expr.Name (PySem.Str.ofString "q") ⟨0, 0, 0, 0⟩) (fun _ => rfl) ?_); k_dflt (refine' txt_item ?k1Qz ?k2Qz ?k3Qz ?k4Qz ?k5Qz ?k6Qz ?_ ?k7Qz ?k8Qz; (case k1Qz => k_asm); (case k2Qz => k_mem); (case k3Qz => exact strs7); (case k4Qz => omega); (case k5Qz => (simp only [List.length_cons, List.length_nil]; omega)); (case k6Qz => omega); (case k7Qz => with_unfolding_all rfl); (case k8Qz => (intro _; with_unfolding_all rfl)); k_whole); intro t9)) | ((with_reducible show wpAny _ _ (exec (PySem.Stmt.For (PySem.Expr.Name _ _) (PySem.Expr.Subscript _ _ _) _ _ _) _) _ _ _); (k_here; k_dflt (refine' For_text ?_ ?k1Qz; (case k1Qz => intro _; exact rfl); k_whole))) | ((with_reducible show wpAny _ _ (eval (PySem.Expr.Dict [] [] _) _) _ _ _); (k_here; k_dflt (refine' dict_empty_rows ?k1Qz ?k2Qz (modules_low (TopRead.nolimit (by k_asm))) ?_; (case k1Qz => k_asm); (case k2Qz => k_asm); k_whole); intro d' h' F' N' lo' l1; (try k_lt l1); (try k_sweep))) | ((with_reducible show wpAny _ _ (binaryOp Operator.Add (Value.ref _) (Value.ref _)) _ _ _); (k_here; (with_reducible show wpAny _ _ (binaryOp _ (Value.ref _) (Value.ref _)) _ _ _); k_dflt (refine' int_add ?k1Qz ?k2Qz ?k3Qz ?k4Qz ?k5Qz ?k6Qz ?k7Qz ?_; (case k1Qz => k_asm); (case k2Qz => k_asm); (case k3Qz => k_mem); (case k4Qz => assumption); (case k5Qz => k_mem); (case k6Qz => assumption); (case k7Qz => omega); k_whole); intro D' h' F' N' l1 hI'; (try k_lt l1); (try k_sweep))) | ((with_reducible show wpAny _ _ (call (Value.ref 37) _) _ _ _); (k_here; k_dflt (refine' Tells.useS ?k1Qz ?k2Qz ?k3Qz ?k4Qz ?k5Qz ?k6Qz ?kcQz ?k7Qz ?k8Qz ?k9Qz ?_; (case k1Qz => k_asm); (case k2Qz => k_asm); (case k3Qz => k_asm); (case k4Qz => k_asm); (case k5Qz => k_asm); (case kcQz => exact escape_ok _ _ _ _ _ (by k_mem) (by assumption) (by assumption) (by omega)); (case k6Qz => first | exact rfl | assumption); (case k7Qz => ktr_room); (case k8Qz => ktr_units); (case k9Qz => first | exact Nat.zero_le _ | ((try dsimp only); omega)); k_whole; intro t9 h9 tk9 F9 N9 htk9))) | ((with_reducible show wpAny _ _ (exec (PySem.Stmt.For (PySem.Expr.Name _ _) (PySem.Expr.Subscript _ _ _) _ _ _) _) _ _ _); (k_here; (rename Fr _ _ _ _ => lF'); (with_unfolding_all refine' For_invVF lF' ?k1Qz ?k2Qz ?_; (case k1Qz => exact rfl); (case k2Qz => exact rfl); k_whole))) | ((with_reducible show wpAny _ _ (exec (PySem.Stmt.For (PySem.Expr.Name _ _) (PySem.Expr.Call _ _ _ _) _ _ _) _) _ _ _); (k_here; (rename Fr _ _ _ _ => lF'); (with_unfolding_all refine' For_invVF lF' ?k1Qz ?k2Qz ?_; (case k1Qz => exact rfl); (case k2Qz => exact rfl); k_whole))) | ((with_reducible show wpAny _ _ (exec (PySem.Stmt.For (PySem.Expr.Name _ _) (PySem.Expr.Name _ _) _ _ _) _) _ _ _); (k_here; (rename Fr _ _ _ _ => lF'); (with_unfolding_all refine' For_invVF lF' ?k1Qz ?k2Qz ?_; (case k1Qz => exact rfl); (case k2Qz => exact rfl); k_whole))) | ((with_reducible show wpAny _ _ (execs [] _) _ _ _); (k_here; (with_reducible refine wpAny_execs_nil ?_); (try dsimp only))) | ((with_reducible show wpAny _ _ (execs (_ :: _) _) _ _ _); (k_here; (with_reducible refine wpAny_execs_cons ?_); (try dsimp only))) | walk1) <;> (try dsimp only)))
      all_goals (rename Fr _ _ _ _ => F9; rename News _ _ _ _ => N9; rename _ < _ ∧ _ < _ ∧ _ < _ => l9)
      · exact OwnPost.intro (by omega) F9 N9 (by exact ⟨l9.1, l9.2.1, l9.2.2, trivial⟩) (by rw [ownP1 (by assumption)]; exact own8)
      · exact OwnPost.intro (by omega) F9 N9 (by exact ⟨l9.1, l9.2.1, l9.2.2, trivial⟩) (by rw [ownP0 (by assumption)]; exact .nil)
    · intro D1 h1 tk1 vs1 htk1 F2 N2 hl2 hI2
      clear F1 N1
      obtain ⟨hd1, hd2, hd3, hd4, hd5⟩ := draw_facts hI2 hI8
      repeat' ((fail_if_success (with_reducible show wpAny _ _ (call (Value.ref _) _) _ _ _)); ((first | ((with_reducible show wpAny _ _ (setItem (Value.ref _) (Value.str _ _) _) _ _ _); (k_here; k_dflt (refine' row_set ?k1Qz ?k2Qz ?k3Qz ?k4Qz ?k5Qz ?k6Qz ?_; (case k1Qz => k_asm); (case k2Qz => k_asm); (case k6Qz => k_updF); (case k3Qz => assumption); (case k4Qz => assumption); (case k5Qz => omega); k_whole); intro h' F' N'; (try dsimp only at N'); (try k_sweep))) | ((with_reducible show wpAny _ _ (getItem (Value.ref _) (Value.str _ _)) _ _ _); (k_here; k_dflt (refine' ref_get ?k1Qz ?k2Qz ?k3Qz ?k4Qz ?_; (case k1Qz => k_asm); (case k2Qz => k_mem); (case k3Qz => assumption); (case k4Qz => assumption); k_whole); intro t9 ht91 ht92)) | ((with_reducible show wpAny _ _ (subscriptTail _ _ (Value.ref _) (Value.int _ _)) _ _ _); (k_here; (with_reducible show wpAny _ _ (subscriptTail _ _ (Value.ref _) (Value.int (Int.fmod _ _) _)) _ _ _); k_dflt (refine kba_turn (value' := PySem.Expr.Name (PySem.Str.ofString "q") ⟨0, 0, 0, 0⟩) (fun _ => rfl) ?_); k_dflt (refine' txt_item ?k1Qz ?k2Qz ?k3Qz ?k4Qz ?k5Qz ?k6Qz ?_ ?k7Qz ?k8Qz; (case k1Qz => k_asm); (case k2Qz => k_mem); (case k3Qz => exact strs7); (case k4Qz => omega); (case k5Qz => (simp only [List.length_cons, List.length_nil]; omega)); (case k6Qz => omega); (case k7Qz => with_unfolding_all rfl); (case k8Qz => (intro _; with_unfolding_all rfl)); k_whole); intro t9)) | ((with_reducible show wpAny _ _ (exec (PySem.Stmt.For (PySem.Expr.Name _ _) (PySem.Expr.Subscript _ _ _) _ _ _) _) _ _ _); (k_here; k_dflt (refine' For_text ?_ ?k1Qz; (case k1Qz => intro _; exact rfl); k_whole))) | ((with_reducible show wpAny _ _ (eval (PySem.Expr.Dict [] [] _) _) _ _ _); (k_here; k_dflt (refine' dict_empty_rows ?k1Qz ?k2Qz (modules_low (TopRead.nolimit (by k_asm))) ?_; (case k1Qz => k_asm); (case k2Qz => k_asm); k_whole); intro d' h' F' N' lo' l1; (try k_lt l1); (try k_sweep))) | ((with_reducible show wpAny _ _ (binaryOp Operator.Add (Value.ref _) (Value.ref _)) _ _ _); (k_here; (with_reducible show wpAny _ _ (binaryOp _ (Value.ref _) (Value.ref _)) _ _ _); k_dflt (refine' int_add ?k1Qz ?k2Qz ?k3Qz ?k4Qz ?k5Qz ?k6Qz ?k7Qz ?_; (case k1Qz => k_asm); (case k2Qz => k_asm); (case k3Qz => k_mem); (case k4Qz => assumption); (case k5Qz => k_mem); (case k6Qz => assumption); (case k7Qz => omega); k_whole); intro D' h' F' N' l1 hI'; (try k_lt l1); (try k_sweep))) | ((with_reducible show wpAny _ _ (call (Value.ref 37) _) _ _ _); (k_here; k_dflt (refine' Tells.useS ?k1Qz ?k2Qz ?k3Qz ?k4Qz ?k5Qz ?k6Qz ?kcQz ?k7Qz ?k8Qz ?k9Qz ?_; (case k1Qz => k_asm); (case k2Qz => k_asm); (case k3Qz => k_asm); (case k4Qz => k_asm); (case k5Qz => k_asm); (case kcQz => exact escape_ok _ _ _ _ _ (by k_mem) (by assumption) (by assumption) (by omega)); (case k6Qz => first | exact rfl | assumption); (case k7Qz => ktr_room); (case k8Qz => ktr_units); (case k9Qz => first | exact Nat.zero_le _ | ((try dsimp only); omega)); k_whole; intro t9 h9 tk9 F9 N9 htk9))) | ((with_reducible show wpAny _ _ (exec (PySem.Stmt.For (PySem.Expr.Name _ _) (PySem.Expr.Subscript _ _ _) _ _ _) _) _ _ _); (k_here; (rename Fr _ _ _ _ => lF'); (with_unfolding_all refine' For_invVF lF' ?k1Qz ?k2Qz ?_; (case k1Qz => exact rfl); (case k2Qz => exact rfl); k_whole))) | ((with_reducible show wpAny _ _ (exec (PySem.Stmt.For (PySem.Expr.Name _ _) (PySem.Expr.Call _ _ _ _) _ _ _) _) _ _ _); (k_here; (rename Fr _ _ _ _ => lF'); (with_unfolding_all refine' For_invVF lF' ?k1Qz ?k2Qz ?_; (case k1Qz => exact rfl); (case k2Qz => exact rfl); k_whole))) | ((with_reducible show wpAny _ _ (exec (PySem.Stmt.For (PySem.Expr.Name _ _) (PySem.Expr.Name _ _) _ _ _) _) _ _ _); (k_here; (rename Fr _ _ _ _ => lF'); (with_unfolding_all refine' For_invVF lF' ?k1Qz ?k2Qz ?_; (case k1Qz => exact rfl); (case k2Qz => exact rfl); k_whole))) | ((with_reducible show wpAny _ _ (execs [] _) _ _ _); (k_here; (with_reducible refine wpAny_execs_nil ?_); (try dsimp only))) | ((with_reducible show wpAny _ _ (execs (_ :: _) _) _ _ _); (k_here; (with_reducible refine wpAny_execs_cons ?_); (try dsimp only))) | walk1) <;> (try dsimp only)))
      rename Fr _ _ _ _ => F3
      rename News _ _ _ _ => N3
      rename IntsAre (_ ++ _) _ => hI3
      k_here
      k_dflt (refine' Tells.useN ?k1 ?k2 ?k3 ?k4 ?k5 ?k6 ?kc ?k7 ?k8 ?k9 ?_; (case k1 => k_asm); (case k2 => k_asm); (case k3 => k_asm); (case k4 => k_asm); (case k5 => k_asm); (case kc => exact Tells.one (names_ok _ _ _ hI3 (by k_mem) hd4 hd5)); (case k6 => first | exact rfl | assumption); (case k7 => ktr_room); (case k8 => ktr_units); (case k9 => first | exact Nat.zero_le _ | ((try dsimp only); omega)); k_whole)
      intro D9 h9 tk9 ws9 c9 F9 N9 htk9 hs9
      (try clear F3); (try clear N3); (try clear F2); (try clear N2)
      have N4 := news_drop N9 (news_ends _ _ _ _ _ _ _ rfl)
      clear N9
      have hne9 := list_not_cell N4 (by assumption)
      have hnf := namesP_facts hd3
      have hnok := namesP_ok (ownP (List.map (fun k' => Int.fmod k' 4096) (List.take 12 ns0)).sum ++ List.map (fun k' => Int.fmod k' 4096) (List.take 12 ns0))
      generalize namesP _ = NS at hs9 hnf hnok
      obtain ⟨hns0, hnsl, hnss⟩ := hnf
      have h7 : 0 ≤ Int.fmod (List.map (fun k' => Int.fmod k' 4096) (List.take 12 ns0)).sum 7 ∧ Int.fmod (List.map (fun k' => Int.fmod k' 4096) (List.take 12 ns0)).sum 7 < 7 := by rw [Int.fmod_eq_emod_of_nonneg _ (by decide)]; omega
      have hy7 := menu7_ys (menu7_in h7)
      obtain ⟨Y, hY⟩ : ∃ Y, Y = cl (menu7.getD (Int.fmod (List.map (fun k' => Int.fmod k' 4096) (List.take 12 ns0)).sum 7).toNat default) := ⟨_, rfl⟩
      obtain ⟨hYs, hYa, hY3⟩ := hy7
      rw [← hY] at hYs hY3
      repeat' ((fail_if_success (with_reducible show TextAt _ _ _ _ _ _ _ _ _ _ _)); ((first | ((with_reducible show wpAny _ _ (setItem (Value.ref _) (Value.str _ _) _) _ _ _); (k_here; k_dflt (refine' row_set ?k1Qz ?k2Qz ?k3Qz ?k4Qz ?k5Qz ?k6Qz ?_; (case k1Qz => k_asm); (case k2Qz => k_asm); (case k6Qz => k_updF); (case k3Qz => assumption); (case k4Qz => assumption); (case k5Qz => omega); k_whole); intro h' F' N'; (try dsimp only at N'); (try k_sweep))) | ((with_reducible show wpAny _ _ (getItem (Value.ref _) (Value.str _ _)) _ _ _); (k_here; k_dflt (refine' ref_get ?k1Qz ?k2Qz ?k3Qz ?k4Qz ?_; (case k1Qz => k_asm); (case k2Qz => k_mem); (case k3Qz => assumption); (case k4Qz => assumption); k_whole); intro t9 ht91 ht92)) | ((with_reducible show wpAny _ _ (subscriptTail _ _ (Value.ref _) (Value.int _ _)) _ _ _); (k_here; (with_reducible show wpAny _ _ (subscriptTail _ _ (Value.ref _) (Value.int (Int.fmod _ _) _)) _ _ _); k_dflt (refine kba_turn (value' := PySem.Expr.Name (PySem.Str.ofString "q") ⟨0, 0, 0, 0⟩) (fun _ => rfl) ?_); k_dflt (refine' txt_item ?k1Qz ?k2Qz ?k3Qz ?k4Qz ?k5Qz ?k6Qz ?_ ?k7Qz ?k8Qz; (case k1Qz => k_asm); (case k2Qz => k_mem); (case k3Qz => exact strs7); (case k4Qz => omega); (case k5Qz => (simp only [List.length_cons, List.length_nil]; omega)); (case k6Qz => omega); (case k7Qz => with_unfolding_all rfl); (case k8Qz => (intro _; with_unfolding_all rfl)); k_whole); intro t9)) | ((with_reducible show wpAny _ _ (exec (PySem.Stmt.For (PySem.Expr.Name _ _) (PySem.Expr.Subscript _ _ _) _ _ _) _) _ _ _); (k_here; k_dflt (refine' For_text ?_ ?k1Qz; (case k1Qz => intro _; exact rfl); k_whole))) | ((with_reducible show wpAny _ _ (eval (PySem.Expr.Dict [] [] _) _) _ _ _); (k_here; k_dflt (refine' dict_empty_rows ?k1Qz ?k2Qz (modules_low (TopRead.nolimit (by k_asm))) ?_; (case k1Qz => k_asm); (case k2Qz => k_asm); k_whole); intro d' h' F' N' lo' l1; (try k_lt l1); (try k_sweep))) | ((with_reducible show wpAny _ _ (binaryOp Operator.Add (Value.ref _) (Value.ref _)) _ _ _); (k_here; (with_reducible show wpAny _ _ (binaryOp _ (Value.ref _) (Value.ref _)) _ _ _); k_dflt (refine' int_add ?k1Qz ?k2Qz ?k3Qz ?k4Qz ?k5Qz ?k6Qz ?k7Qz ?_; (case k1Qz => k_asm); (case k2Qz => k_asm); (case k3Qz => k_mem); (case k4Qz => assumption); (case k5Qz => k_mem); (case k6Qz => assumption); (case k7Qz => omega); k_whole); intro D' h' F' N' l1 hI'; (try k_lt l1); (try k_sweep))) | ((with_reducible show wpAny _ _ (call (Value.ref 37) _) _ _ _); (k_here; k_dflt (refine' Tells.useS ?k1Qz ?k2Qz ?k3Qz ?k4Qz ?k5Qz ?k6Qz ?kcQz ?k7Qz ?k8Qz ?k9Qz ?_; (case k1Qz => k_asm); (case k2Qz => k_asm); (case k3Qz => k_asm); (case k4Qz => k_asm); (case k5Qz => k_asm); (case kcQz => exact escape_ok _ _ _ _ _ (by k_mem) (by assumption) (by assumption) (by omega)); (case k6Qz => first | exact rfl | assumption); (case k7Qz => ktr_room); (case k8Qz => ktr_units); (case k9Qz => first | exact Nat.zero_le _ | ((try dsimp only); omega)); k_whole; intro t9 h9 tk9 F9 N9 htk9))) | ((with_reducible show wpAny _ _ (exec (PySem.Stmt.For (PySem.Expr.Name _ _) (PySem.Expr.Subscript _ _ _) _ _ _) _) _ _ _); (k_here; (rename Fr _ _ _ _ => lF'); (with_unfolding_all refine' For_invVF lF' ?k1Qz ?k2Qz ?_; (case k1Qz => exact rfl); (case k2Qz => exact rfl); k_whole))) | ((with_reducible show wpAny _ _ (exec (PySem.Stmt.For (PySem.Expr.Name _ _) (PySem.Expr.Call _ _ _ _) _ _ _) _) _ _ _); (k_here; (rename Fr _ _ _ _ => lF'); (with_unfolding_all refine' For_invVF lF' ?k1Qz ?k2Qz ?_; (case k1Qz => exact rfl); (case k2Qz => exact rfl); k_whole))) | ((with_reducible show wpAny _ _ (exec (PySem.Stmt.For (PySem.Expr.Name _ _) (PySem.Expr.Name _ _) _ _ _) _) _ _ _); (k_here; (rename Fr _ _ _ _ => lF'); (with_unfolding_all refine' For_invVF lF' ?k1Qz ?k2Qz ?_; (case k1Qz => exact rfl); (case k2Qz => exact rfl); k_whole))) | ((with_reducible show wpAny _ _ (execs [] _) _ _ _); (k_here; (with_reducible refine wpAny_execs_nil ?_); (try dsimp only))) | ((with_reducible show wpAny _ _ (execs (_ :: _) _) _ _ _); (k_here; (with_reducible refine wpAny_execs_cons ?_); (try dsimp only))) | walk1) <;> (try dsimp only)))
      rename Obj.IsDictOf _ _ (strPairs _) => hdr
      rename News _ _ _ _ => N5
      rename Fr _ _ _ _ => F5
      refine TextAt.intro (σ := List Row4 × List Row4 × Nat × Nat) (fun st => [(_, dObj _ st.2.1 st.2.2.2), (_, dObj _ st.1 st.2.2.1), (_, _), (_, W.listOf _ _), (_, _)]) (fun i st => RwI Y i st.1 st.2.1) ([], [], 0, 0) [_, _, _, _, _] rfl rfl rfl hYa (by passes_own) F5 N5 (fun st => rfl) (fun p hp => .tail _ hp) (Nat.le_refl _) (RwI.zero _) ?_ ?_
      · rintro i c u ⟨qs, qb, e1, e2⟩ h tk J oJ hc hu hut hI hJ F6 N6
        clear F5 N5
        dsimp only at hu F6 N6 hJ hI ⊢
        have hc' : Y[i]? = some c := by rw [hY]; exact cl_get hc
        obtain ⟨hK1, hK2⟩ := RwI.keys hYs hI
        obtain ⟨hf1, hf2⟩ := RwI.fresh hYs hI hc'
        obtain ⟨hl1, hl2⟩ := RwI.len hI
        have hcm := (ys_in hYs).2 c (List.mem_of_getElem? hc')
        obtain ⟨hn1, hR⟩ := RefsOk.of hu hdr (by (try dsimp only); (try simp only [List.length_cons, List.length_nil]); omega) (by (try dsimp only); (try simp only [List.length_cons, List.length_nil]); omega) (by (try dsimp only); (try simp only [List.length_cons, List.length_nil]); omega)
        simp only [List.forall_mem_cons, List.cons_append, List.nil_append] at hJ N6
        obtain ⟨hJ1, hJ2, hJ3, hJ4, hJ5, _⟩ := hJ
        (with_reducible show wpAny _ _ _ _ _ _)
        k_fold
        repeat' ((fail_if_success (with_reducible show wpAny _ _ (pyIter _) _ _ _)); ((first | ((with_reducible show wpAny _ _ (setItem (Value.ref _) (Value.str _ _) _) _ _ _); (k_here; k_dflt (refine' row_set ?k1Qz ?k2Qz ?k3Qz ?k4Qz ?k5Qz ?k6Qz ?_; (case k1Qz => k_asm); (case k2Qz => k_asm); (case k6Qz => k_updF); (case k3Qz => assumption); (case k4Qz => assumption); (case k5Qz => omega); k_whole); intro h' F' N'; (try dsimp only at N'); (try k_sweep))) | ((with_reducible show wpAny _ _ (getItem (Value.ref _) (Value.str _ _)) _ _ _); (k_here; k_dflt (refine' ref_get ?k1Qz ?k2Qz ?k3Qz ?k4Qz ?_; (case k1Qz => k_asm); (case k2Qz => k_mem); (case k3Qz => assumption); (case k4Qz => assumption); k_whole); intro t9 ht91 ht92)) | ((with_reducible show wpAny _ _ (subscriptTail _ _ (Value.ref _) (Value.int _ _)) _ _ _); (k_here; (with_reducible show wpAny _ _ (subscriptTail _ _ (Value.ref _) (Value.int (Int.fmod _ _) _)) _ _ _); k_dflt (refine kba_turn (value' := PySem.Expr.Name (PySem.Str.ofString "q") ⟨0, 0, 0, 0⟩) (fun _ => rfl) ?_); k_dflt (refine' txt_item ?k1Qz ?k2Qz ?k3Qz ?k4Qz ?k5Qz ?k6Qz ?_ ?k7Qz ?k8Qz; (case k1Qz => k_asm); (case k2Qz => k_mem); (case k3Qz => exact strs7); (case k4Qz => omega); (case k5Qz => (simp only [List.length_cons, List.length_nil]; omega)); (case k6Qz => omega); (case k7Qz => with_unfolding_all rfl); (case k8Qz => (intro _; with_unfolding_all rfl)); k_whole); intro t9)) | ((with_reducible show wpAny _ _ (exec (PySem.Stmt.For (PySem.Expr.Name _ _) (PySem.Expr.Subscript _ _ _) _ _ _) _) _ _ _); (k_here; k_dflt (refine' For_text ?_ ?k1Qz; (case k1Qz => intro _; exact rfl); k_whole))) | ((with_reducible show wpAny _ _ (eval (PySem.Expr.Dict [] [] _) _) _ _ _); (k_here; k_dflt (refine' dict_empty_rows ?k1Qz ?k2Qz (modules_low (TopRead.nolimit (by k_asm))) ?_; (case k1Qz => k_asm); (case k2Qz => k_asm); k_whole); intro d' h' F' N' lo' l1; (try k_lt l1); (try k_sweep))) | ((with_reducible show wpAny _ _ (binaryOp Operator.Add (Value.ref _) (Value.ref _)) _ _ _); (k_here; (with_reducible show wpAny _ _ (binaryOp _ (Value.ref _) (Value.ref _)) _ _ _); k_dflt (refine' int_add ?k1Qz ?k2Qz ?k3Qz ?k4Qz ?k5Qz ?k6Qz ?k7Qz ?_; (case k1Qz => k_asm); (case k2Qz => k_asm); (case k3Qz => k_mem); (case k4Qz => assumption); (case k5Qz => k_mem); (case k6Qz => assumption); (case k7Qz => omega); k_whole); intro D' h' F' N' l1 hI'; (try k_lt l1); (try k_sweep))) | ((with_reducible show wpAny _ _ (call (Value.ref 37) _) _ _ _); (k_here; k_dflt (refine' Tells.useS ?k1Qz ?k2Qz ?k3Qz ?k4Qz ?k5Qz ?k6Qz ?kcQz ?k7Qz ?k8Qz ?k9Qz ?_; (case k1Qz => k_asm); (case k2Qz => k_asm); (case k3Qz => k_asm); (case k4Qz => k_asm); (case k5Qz => k_asm); (case kcQz => exact escape_ok _ _ _ _ _ (by k_mem) (by assumption) (by assumption) (by omega)); (case k6Qz => first | exact rfl | assumption); (case k7Qz => ktr_room); (case k8Qz => ktr_units); (case k9Qz => first | exact Nat.zero_le _ | ((try dsimp only); omega)); k_whole; intro t9 h9 tk9 F9 N9 htk9))) | ((with_reducible show wpAny _ _ (exec (PySem.Stmt.For (PySem.Expr.Name _ _) (PySem.Expr.Subscript _ _ _) _ _ _) _) _ _ _); (k_here; (rename Fr _ _ _ _ => lF'); (with_unfolding_all refine' For_invVF lF' ?k1Qz ?k2Qz ?_; (case k1Qz => exact rfl); (case k2Qz => exact rfl); k_whole))) | ((with_reducible show wpAny _ _ (exec (PySem.Stmt.For (PySem.Expr.Name _ _) (PySem.Expr.Call _ _ _ _) _ _ _) _) _ _ _); (k_here; (rename Fr _ _ _ _ => lF'); (with_unfolding_all refine' For_invVF lF' ?k1Qz ?k2Qz ?_; (case k1Qz => exact rfl); (case k2Qz => exact rfl); k_whole))) | ((with_reducible show wpAny _ _ (exec (PySem.Stmt.For (PySem.Expr.Name _ _) (PySem.Expr.Name _ _) _ _ _) _) _ _ _); (k_here; (rename Fr _ _ _ _ => lF'); (with_unfolding_all refine' For_invVF lF' ?k1Qz ?k2Qz ?_; (case k1Qz => exact rfl); (case k2Qz => exact rfl); k_whole))) | ((with_reducible show wpAny _ _ (execs [] _) _ _ _); (k_here; (with_reducible refine wpAny_execs_nil ?_); (try dsimp only))) | ((with_reducible show wpAny _ _ (execs (_ :: _) _) _ _ _); (k_here; (with_reducible refine wpAny_execs_cons ?_); (try dsimp only))) | walk1) <;> (try dsimp only)))
        all_goals (k_unfold; dsimp only [StPost]; rename Fr _ _ _ _ => F9; rename News _ _ _ _ => N9)
        all_goals refine' StEnd.intro (_, _, _, _) F9 N9 (fun p hp => List.mem_append_left [(J, oJ)] hp) (fun p hp => List.mem_append_right [_, _, _, _, _] hp) (fun z hz => if_neg hz) (RwI.succ hI hYs hc' hn1 hu ?_ ?_ ?_ ?_)
        all_goals (first | assumption | skip)
      · rintro u ⟨qs, qb, e1, e2⟩ h tk htk hI F6 N6
        clear F5 N5
        dsimp only at F6 N6 htk hI ⊢
        obtain ⟨hTb, hRo, hRb⟩ := RwI.fin hYs hY3 (by rw [hY]; exact (cl_len _).symm) hI
        have N7 := news_drop N6 (mem_but3 _ _ _ _ _)
        clear N6
        repeat' ((fail_if_success (with_reducible show LCg.CompSrc _ _ _ _ _ _ _ _ _ _ _ _ _ _)); ((first | ((with_reducible show wpAny _ _ (setItem (Value.ref _) (Value.str _ _) _) _ _ _); (k_here; k_dflt (refine' row_set ?k1Qz ?k2Qz ?k3Qz ?k4Qz ?k5Qz ?k6Qz ?_; (case k1Qz => k_asm); (case k2Qz => k_asm); (case k6Qz => k_updF); (case k3Qz => assumption); (case k4Qz => assumption); (case k5Qz => omega); k_whole); intro h' F' N'; (try dsimp only at N'); (try k_sweep))) | ((with_reducible show wpAny _ _ (getItem (Value.ref _) (Value.str _ _)) _ _ _); (k_here; k_dflt (refine' ref_get ?k1Qz ?k2Qz ?k3Qz ?k4Qz ?_; (case k1Qz => k_asm); (case k2Qz => k_mem); (case k3Qz => assumption); (case k4Qz => assumption); k_whole); intro t9 ht91 ht92)) | ((with_reducible show wpAny _ _ (subscriptTail _ _ (Value.ref _) (Value.int _ _)) _ _ _); (k_here; (with_reducible show wpAny _ _ (subscriptTail _ _ (Value.ref _) (Value.int (Int.fmod _ _) _)) _ _ _); k_dflt (refine kba_turn (value' := PySem.Expr.Name (PySem.Str.ofString "q") ⟨0, 0, 0, 0⟩) (fun _ => rfl) ?_); k_dflt (refine' txt_item ?k1Qz ?k2Qz ?k3Qz ?k4Qz ?k5Qz ?k6Qz ?_ ?k7Qz ?k8Qz; (case k1Qz => k_asm); (case k2Qz => k_mem); (case k3Qz => exact strs7); (case k4Qz => omega); (case k5Qz => (simp only [List.length_cons, List.length_nil]; omega)); (case k6Qz => omega); (case k7Qz => with_unfolding_all rfl); (case k8Qz => (intro _; with_unfolding_all rfl)); k_whole); intro t9)) | ((with_reducible show wpAny _ _ (exec (PySem.Stmt.For (PySem.Expr.Name _ _) (PySem.Expr.Subscript _ _ _) _ _ _) _) _ _ _); (k_here; k_dflt (refine' For_text ?_ ?k1Qz; (case k1Qz => intro _; exact rfl); k_whole))) | ((with_reducible show wpAny _ _ (eval (PySem.Expr.Dict [] [] _) _) _ _ _); (k_here; k_dflt (refine' dict_empty_rows ?k1Qz ?k2Qz (modules_low (TopRead.nolimit (by k_asm))) ?_; (case k1Qz => k_asm); (case k2Qz => k_asm); k_whole); intro d' h' F' N' lo' l1; (try k_lt l1); (try k_sweep))) | ((with_reducible show wpAny _ _ (binaryOp Operator.Add (Value.ref _) (Value.ref _)) _ _ _); (k_here; (with_reducible show wpAny _ _ (binaryOp _ (Value.ref _) (Value.ref _)) _ _ _); k_dflt (refine' int_add ?k1Qz ?k2Qz ?k3Qz ?k4Qz ?k5Qz ?k6Qz ?k7Qz ?_; (case k1Qz => k_asm); (case k2Qz => k_asm); (case k3Qz => k_mem); (case k4Qz => assumption); (case k5Qz => k_mem); (case k6Qz => assumption); (case k7Qz => omega); k_whole); intro D' h' F' N' l1 hI'; (try k_lt l1); (try k_sweep))) | ((with_reducible show wpAny _ _ (call (Value.ref 37) _) _ _ _); (k_here; k_dflt (refine' Tells.useS ?k1Qz ?k2Qz ?k3Qz ?k4Qz ?k5Qz ?k6Qz ?kcQz ?k7Qz ?k8Qz ?k9Qz ?_; (case k1Qz => k_asm); (case k2Qz => k_asm); (case k3Qz => k_asm); (case k4Qz => k_asm); (case k5Qz => k_asm); (case kcQz => exact escape_ok _ _ _ _ _ (by k_mem) (by assumption) (by assumption) (by omega)); (case k6Qz => first | exact rfl | assumption); (case k7Qz => ktr_room); (case k8Qz => ktr_units); (case k9Qz => first | exact Nat.zero_le _ | ((try dsimp only); omega)); k_whole; intro t9 h9 tk9 F9 N9 htk9))) | ((with_reducible show wpAny _ _ (exec (PySem.Stmt.For (PySem.Expr.Name _ _) (PySem.Expr.Subscript _ _ _) _ _ _) _) _ _ _); (k_here; (rename Fr _ _ _ _ => lF'); (with_unfolding_all refine' For_invVF lF' ?k1Qz ?k2Qz ?_; (case k1Qz => exact rfl); (case k2Qz => exact rfl); k_whole))) | ((with_reducible show wpAny _ _ (exec (PySem.Stmt.For (PySem.Expr.Name _ _) (PySem.Expr.Call _ _ _ _) _ _ _) _) _ _ _); (k_here; (rename Fr _ _ _ _ => lF'); (with_unfolding_all refine' For_invVF lF' ?k1Qz ?k2Qz ?_; (case k1Qz => exact rfl); (case k2Qz => exact rfl); k_whole))) | ((with_reducible show wpAny _ _ (exec (PySem.Stmt.For (PySem.Expr.Name _ _) (PySem.Expr.Name _ _) _ _ _) _) _ _ _); (k_here; (rename Fr _ _ _ _ => lF'); (with_unfolding_all refine' For_invVF lF' ?k1Qz ?k2Qz ?_; (case k1Qz => exact rfl); (case k2Qz => exact rfl); k_whole))) | ((with_reducible show wpAny _ _ (execs [] _) _ _ _); (k_here; (with_reducible refine wpAny_execs_nil ?_); (try dsimp only))) | ((with_reducible show wpAny _ _ (execs (_ :: _) _) _ _ _); (k_here; (with_reducible refine wpAny_execs_cons ?_); (try dsimp only))) | walk1) <;> (try dsimp only)))
        rename News _ _ _ _ => N8
        rename Fr _ _ _ _ => F8
        refine LCg.CompSrc.ledger rfl F8 N8 (.tail _ (.tail _ (.head _))) (by rw [List.size_toArray, hs9.len_eq, PySem.sizeLine_eq]; omega) fun g => compRest_of (J := fun i ys => StrsAre ys ((NS.map (fun x => escT x qs)).take i)) ?_ ?_ _ 0 [] (Nat.zero_add _) .nil
        · rintro i v ys I oI C oC D m₂ h tk E' hi hv hJ hC hx F9 N9 off ne
          (try clear F8); (try clear N8)
          obtain ⟨nm, tn, rfl, hni, hnm⟩ := strs_get hs9 hv
          have hnl := len_le_sum hnm
          dsimp only at F9 N9 ⊢
          repeat' ((fail_if_success (with_reducible show wpAny _ _ (pyIter _) _ _ _)); ((first | ((with_reducible show wpAny _ _ (setItem (Value.ref _) (Value.str _ _) _) _ _ _); (k_here; k_dflt (refine' row_set ?k1Qz ?k2Qz ?k3Qz ?k4Qz ?k5Qz ?k6Qz ?_; (case k1Qz => k_asm); (case k2Qz => k_asm); (case k6Qz => k_updF); (case k3Qz => assumption); (case k4Qz => assumption); (case k5Qz => omega); k_whole); intro h' F' N'; (try dsimp only at N'); (try k_sweep))) | ((with_reducible show wpAny _ _ (getItem (Value.ref _) (Value.str _ _)) _ _ _); (k_here; k_dflt (refine' ref_get ?k1Qz ?k2Qz ?k3Qz ?k4Qz ?_; (case k1Qz => k_asm); (case k2Qz => k_mem); (case k3Qz => assumption); (case k4Qz => assumption); k_whole); intro t9 ht91 ht92)) | ((with_reducible show wpAny _ _ (subscriptTail _ _ (Value.ref _) (Value.int _ _)) _ _ _); (k_here; (with_reducible show wpAny _ _ (subscriptTail _ _ (Value.ref _) (Value.int (Int.fmod _ _) _)) _ _ _); k_dflt (refine kba_turn (value' := PySem.Expr.Name (PySem.Str.ofString "q") ⟨0, 0, 0, 0⟩) (fun _ => rfl) ?_); k_dflt (refine' txt_item ?k1Qz ?k2Qz ?k3Qz ?k4Qz ?k5Qz ?k6Qz ?_ ?k7Qz ?k8Qz; (case k1Qz => k_asm); (case k2Qz => k_mem); (case k3Qz => exact strs7); (case k4Qz => omega); (case k5Qz => (simp only [List.length_cons, List.length_nil]; omega)); (case k6Qz => omega); (case k7Qz => with_unfolding_all rfl); (case k8Qz => (intro _; with_unfolding_all rfl)); k_whole); intro t9)) | ((with_reducible show wpAny _ _ (exec (PySem.Stmt.For (PySem.Expr.Name _ _) (PySem.Expr.Subscript _ _ _) _ _ _) _) _ _ _); (k_here; k_dflt (refine' For_text ?_ ?k1Qz; (case k1Qz => intro _; exact rfl); k_whole))) | ((with_reducible show wpAny _ _ (eval (PySem.Expr.Dict [] [] _) _) _ _ _); (k_here; k_dflt (refine' dict_empty_rows ?k1Qz ?k2Qz (modules_low (TopRead.nolimit (by k_asm))) ?_; (case k1Qz => k_asm); (case k2Qz => k_asm); k_whole); intro d' h' F' N' lo' l1; (try k_lt l1); (try k_sweep))) | ((with_reducible show wpAny _ _ (binaryOp Operator.Add (Value.ref _) (Value.ref _)) _ _ _); (k_here; (with_reducible show wpAny _ _ (binaryOp _ (Value.ref _) (Value.ref _)) _ _ _); k_dflt (refine' int_add ?k1Qz ?k2Qz ?k3Qz ?k4Qz ?k5Qz ?k6Qz ?k7Qz ?_; (case k1Qz => k_asm); (case k2Qz => k_asm); (case k3Qz => k_mem); (case k4Qz => assumption); (case k5Qz => k_mem); (case k6Qz => assumption); (case k7Qz => omega); k_whole); intro D' h' F' N' l1 hI'; (try k_lt l1); (try k_sweep))) | ((with_reducible show wpAny _ _ (call (Value.ref 37) _) _ _ _); (k_here; k_dflt (refine' Tells.useS ?k1Qz ?k2Qz ?k3Qz ?k4Qz ?k5Qz ?k6Qz ?kcQz ?k7Qz ?k8Qz ?k9Qz ?_; (case k1Qz => k_asm); (case k2Qz => k_asm); (case k3Qz => k_asm); (case k4Qz => k_asm); (case k5Qz => k_asm); (case kcQz => exact escape_ok _ _ _ _ _ (by k_mem) (by assumption) (by assumption) (by omega)); (case k6Qz => first | exact rfl | assumption); (case k7Qz => ktr_room); (case k8Qz => ktr_units); (case k9Qz => first | exact Nat.zero_le _ | ((try dsimp only); omega)); k_whole; intro t9 h9 tk9 F9 N9 htk9))) | ((with_reducible show wpAny _ _ (exec (PySem.Stmt.For (PySem.Expr.Name _ _) (PySem.Expr.Subscript _ _ _) _ _ _) _) _ _ _); (k_here; (rename Fr _ _ _ _ => lF'); (with_unfolding_all refine' For_invVF lF' ?k1Qz ?k2Qz ?_; (case k1Qz => exact rfl); (case k2Qz => exact rfl); k_whole))) | ((with_reducible show wpAny _ _ (exec (PySem.Stmt.For (PySem.Expr.Name _ _) (PySem.Expr.Call _ _ _ _) _ _ _) _) _ _ _); (k_here; (rename Fr _ _ _ _ => lF'); (with_unfolding_all refine' For_invVF lF' ?k1Qz ?k2Qz ?_; (case k1Qz => exact rfl); (case k2Qz => exact rfl); k_whole))) | ((with_reducible show wpAny _ _ (exec (PySem.Stmt.For (PySem.Expr.Name _ _) (PySem.Expr.Name _ _) _ _ _) _) _ _ _); (k_here; (rename Fr _ _ _ _ => lF'); (with_unfolding_all refine' For_invVF lF' ?k1Qz ?k2Qz ?_; (case k1Qz => exact rfl); (case k2Qz => exact rfl); k_whole))) | ((with_reducible show wpAny _ _ (execs [] _) _ _ _); (k_here; (with_reducible refine wpAny_execs_nil ?_); (try dsimp only))) | ((with_reducible show wpAny _ _ (execs (_ :: _) _) _ _ _); (k_here; (with_reducible refine wpAny_execs_cons ?_); (try dsimp only))) | walk1) <;> (try dsimp only)))
          k_unfold
          rename Fr _ _ _ _ => F10
          rename News _ _ _ _ => N10
          exact LCg.CompEnd.intro F10 N10 _ (fun p hp => hp) off (.inr ⟨_, .tail _ (.tail _ (.head _)), rfl, _, rfl⟩) ⟨rfl, by rw [map_take hni]; exact snoc_strs hJ _ _⟩
        · intro ys hJ
          (try clear F8); (try clear N8)
          replace hJ : StrsAre ys (NS.map (fun x => escT x qs)) := by rw [List.take_of_length_le (by rw [List.size_toArray, hs9.len_eq, List.length_map]; exact Nat.le_refl _)] at hJ; exact hJ
          intro DW hW tkW FW NW offW
          dsimp only at FW NW ⊢
          unfold LCg.lst at NW

          have K : Facts Y qs qb NS := ⟨hYs, hTb, hRo, hRb, hns0, hnsl, hnss, hnok⟩
          (try k_unfold)
          refine tail_ok ⟨by k_asm, by k_asm, by k_asm⟩ K hs9 (by assumption) (by assumption) (by assumption) hJ (fr_upd (fr_upd (fr_upd FW (x := Str.ofString "names") rfl) (x := Str.ofString "back") rfl) (x := Str.ofString "written") rfl) NW ?_
          intro h9 tk9 m9 F9
          k_unfold
          (try dsimp only)
          refine goodW_bool F9 (by assumption) (raisesW_false ?_) ?_
          · wrow_none_raised
          · first | wrow_post | kc_post)
theorem law0.tw10095480883494231459 : True := trivial
theorem law0.tw10146772343947262596 : True := trivial
theorem law0.tw10184597460235263154 : True := trivial
theorem law0.tw10296725909595943339 : True := trivial
theorem law0.tw10362422835864789747 : True := trivial
theorem law0.tw10509397538588029826 : True := trivial
theorem law0.tw10511569858926516808 : True := trivial
theorem law0.tw10638804470103758555 : True := trivial
theorem law0.tw10682867708260657703 : True := trivial
theorem law0.tw11100738904498411591 : True := trivial
theorem law0.tw11223263362418839858 : True := trivial
theorem law0.tw11235163905024454578 : True := trivial
theorem law0.tw11244846509269613564 : True := trivial
theorem law0.tw11272251194587018083 : True := trivial
theorem law0.tw11279332160713150011 : True := trivial
theorem law0.tw11349390854862241673 : True := trivial
theorem law0.tw11670579973658460868 : True := trivial
theorem law0.tw11743516832410986192 : True := trivial
theorem law0.tw11768607861433844436 : True := trivial
theorem law0.tw11769744777727433914 : True := trivial
theorem law0.tw11781440929437947442 : True := trivial
theorem law0.tw11859431632840310305 : True := trivial
theorem law0.tw11941072796341011789 : True := trivial
theorem law0.tw11959361041871765522 : True := trivial
theorem law0.tw12121318249026566611 : True := trivial
theorem law0.tw12187896493673951328 : True := trivial
theorem law0.tw1224861732899476550 : True := trivial
theorem law0.tw12329313315254369492 : True := trivial
theorem law0.tw12346181934254485148 : True := trivial
theorem law0.tw12363297311744949093 : True := trivial
theorem law0.tw12539281456134806840 : True := trivial
theorem law0.tw1256541888418543775 : True := trivial
theorem law0.tw12569864987387265281 : True := trivial
theorem law0.tw12685334502247184692 : True := trivial
theorem law0.tw12917328017494065824 : True := trivial
theorem law0.tw12936148741032507619 : True := trivial
theorem law0.tw1301087600333278179 : True := trivial
theorem law0.tw13015998037544899397 : True := trivial
theorem law0.tw13191535121604622858 : True := trivial
theorem law0.tw13246404300884090135 : True := trivial
theorem law0.tw13260206350598397620 : True := trivial
theorem law0.tw1333287347765847669 : True := trivial
theorem law0.tw13398523139639869546 : True := trivial
theorem law0.tw13491575879610427701 : True := trivial
theorem law0.tw13538943877853874382 : True := trivial
theorem law0.tw13612843980436604340 : True := trivial
theorem law0.tw13661154312628583589 : True := trivial
theorem law0.tw13668072922049362273 : True := trivial
theorem law0.tw13726209520415603424 : True := trivial
theorem law0.tw13765983299568313511 : True := trivial
theorem law0.tw13845880746551851130 : True := trivial
theorem law0.tw13887094470469057045 : True := trivial
theorem law0.tw13963636438348786699 : True := trivial
theorem law0.tw13974521956536804830 : True := trivial
theorem law0.tw14138812305841297094 : True := trivial
theorem law0.tw14200610244241395743 : True := trivial
theorem law0.tw14222045865594920884 : True := trivial
theorem law0.tw14249455553144110659 : True := trivial
theorem law0.tw14252217256052004804 : True := trivial
theorem law0.tw14290611070207523167 : True := trivial
theorem law0.tw14576423877304278153 : True := trivial
theorem law0.tw15096049168482566556 : True := trivial
theorem law0.tw1511544562154037056 : True := trivial
theorem law0.tw15173081962000802729 : True := trivial
theorem law0.tw15306539674793857377 : True := trivial
theorem law0.tw15465206335192614112 : True := trivial
theorem law0.tw15581958874973260358 : True := trivial
theorem law0.tw1560864682570406453 : True := trivial
theorem law0.tw15701137439533193855 : True := trivial
theorem law0.tw15867905304814998245 : True := trivial
theorem law0.tw1610760908340044523 : True := trivial
theorem law0.tw1612859565653257706 : True := trivial
theorem law0.tw1620366084565181 : True := trivial
theorem law0.tw16255955146399468362 : True := trivial
theorem law0.tw16264966986630423340 : True := trivial
theorem law0.tw16373875780119690239 : True := trivial
theorem law0.tw16655196608270618420 : True := trivial
theorem law0.tw16657587348063317417 : True := trivial
theorem law0.tw16886223664993613692 : True := trivial
theorem law0.tw1699502032180820545 : True := trivial
theorem law0.tw17040400367079689262 : True := trivial
theorem law0.tw17131453603766426202 : True := trivial
theorem law0.tw17428989414929986597 : True := trivial
theorem law0.tw17475498791739800603 : True := trivial
theorem law0.tw17510720145201880253 : True := trivial
theorem law0.tw18073406225219371946 : True := trivial
theorem law0.tw18094338034007330530 : True := trivial
theorem law0.tw18423069317951216678 : True := trivial
theorem law0.tw18443407227104136653 : True := trivial
theorem law0.tw1920005134880902547 : True := trivial
theorem law0.tw2037477419948805422 : True := trivial
theorem law0.tw2345004794090384986 : True := trivial
theorem law0.tw2361512705433084800 : True := trivial
theorem law0.tw2400834441726409510 : True := trivial
theorem law0.tw242830475430967187 : True := trivial
theorem law0.tw2475944077219576648 : True := trivial
theorem law0.tw2570183641061490875 : True := trivial
theorem law0.tw2585905329054630142 : True := trivial
theorem law0.tw2666381876535079507 : True := trivial
theorem law0.tw2744046844789289277 : True := trivial
theorem law0.tw2969279790835003084 : True := trivial
theorem law0.tw3221429205929893152 : True := trivial
theorem law0.tw3290840721006632444 : True := trivial
theorem law0.tw3326316516304273019 : True := trivial
theorem law0.tw334938984278594083 : True := trivial
theorem law0.tw3383080383691934540 : True := trivial
theorem law0.tw3469058355537598690 : True := trivial
theorem law0.tw3582954245757958440 : True := trivial
theorem law0.tw3821402484137310781 : True := trivial
theorem law0.tw3893947409712690706 : True := trivial
theorem law0.tw3925605507518493404 : True := trivial
theorem law0.tw4003093422367203626 : True := trivial
theorem law0.tw406732618581100268 : True := trivial
theorem law0.tw4121826197934297101 : True := trivial
theorem law0.tw4275896889816186295 : True := trivial
theorem law0.tw4350571009898500681 : True := trivial
theorem law0.tw4461244602327236999 : True := trivial
theorem law0.tw4571592872686814216 : True := trivial
theorem law0.tw4612160342394651920 : True := trivial
theorem law0.tw4777423316363239594 : True := trivial
theorem law0.tw4777488686911143438 : True := trivial
theorem law0.tw4878174255723778311 : True := trivial
theorem law0.tw491081742472340353 : True := trivial
theorem law0.tw5114199050186101605 : True := trivial
theorem law0.tw5278696269933924704 : True := trivial
theorem law0.tw5381826499560636667 : True := trivial
theorem law0.tw5440122548897807150 : True := trivial
theorem law0.tw5518365810387356747 : True := trivial
theorem law0.tw5612557307416470968 : True := trivial
theorem law0.tw5651199925033432619 : True := trivial
theorem law0.tw565944594258984397 : True := trivial
theorem law0.tw5756853278724639683 : True := trivial
theorem law0.tw592230626558410880 : True := trivial
theorem law0.tw5948292913123377103 : True := trivial
theorem law0.tw5959803100917200937 : True := trivial
theorem law0.tw6012819776628231351 : True := trivial
theorem law0.tw6045903549345957425 : True := trivial
theorem law0.tw6241515457476834934 : True := trivial
theorem law0.tw6256109457577637075 : True := trivial
theorem law0.tw6340828899037711153 : True := trivial
theorem law0.tw6357754386109894475 : True := trivial
theorem law0.tw6393542445638457130 : True := trivial
theorem law0.tw6446413588398589784 : True := trivial
theorem law0.tw6507899236002629847 : True := trivial
theorem law0.tw6520547431633036078 : True := trivial
theorem law0.tw6521327892170795074 : True := trivial
theorem law0.tw6613000564315775730 : True := trivial
theorem law0.tw6623399549322444180 : True := trivial
theorem law0.tw6639347798800800660 : True := trivial
theorem law0.tw6859409545170283108 : True := trivial
theorem law0.tw6934433870043238913 : True := trivial
theorem law0.tw7029406129357418648 : True := trivial
theorem law0.tw7070538115585392904 : True := trivial
theorem law0.tw7385239516411280475 : True := trivial
theorem law0.tw7639406124816373305 : True := trivial
theorem law0.tw7688396677744957350 : True := trivial
theorem law0.tw7756259884630132659 : True := trivial
theorem law0.tw7767183559601821968 : True := trivial
theorem law0.tw7787490541490617941 : True := trivial
theorem law0.tw7975160994723591189 : True := trivial
theorem law0.tw8033044512686501878 : True := trivial
theorem law0.tw8061300883978502320 : True := trivial
theorem law0.tw8132111524018249781 : True := trivial
theorem law0.tw8180878580205191754 : True := trivial
theorem law0.tw8283855022375279528 : True := trivial
theorem law0.tw8325049363055077699 : True := trivial
theorem law0.tw8356385577724382480 : True := trivial
theorem law0.tw8386381093137330377 : True := trivial
theorem law0.tw8539634873401475426 : True := trivial
theorem law0.tw8605598279569741853 : True := trivial
theorem law0.tw8668630876662886431 : True := trivial
theorem law0.tw8696416252155241285 : True := trivial
theorem law0.tw8768074342612837633 : True := trivial
theorem law0.tw878672763761770996 : True := trivial
theorem law0.tw8993865214624504486 : True := trivial
theorem law0.tw9018901224244890181 : True := trivial
theorem law0.tw9253683799435313286 : True := trivial
theorem law0.tw937520463590543270 : True := trivial
theorem law0.tw9555923757770736567 : True := trivial
theorem law0.tw9691323953756417837 : True := trivial
theorem law0.tw97011327422333217 : True := trivial
theorem law0.tw9744488965110276969 : True := trivial
theorem law0.tw985051220168086573 : True := trivial
theorem law0.tw9965426040842941362 : True := trivial
set_option Elab.async true in
theorem law0 : PySem.Challenge.rw_ij0051_01.Holds := by
  w_on
  o_law
  k_head
  (case hw => w_witness2)
  exact walk0
end Mine
theorem PySem.Challenge.cw_ij0051_01_holds : PySem.Challenge.rw_ij0051_01.Holds := by
  exact Mine.law0
