import PyProof.Rows.All
import Wide.All
import OpenK.AllK
import Wide.FinOn
import Lean
import PySem.Challenge.RW_zn0008_01
open PySem PySem.W PyProof.Rows PyProof.V PySem.Calls PySem.Spec
set_option Elab.async false
set_option maxRecDepth 100000
set_option maxHeartbeats 8000000
set_option linter.all false
namespace Mine
-- my own words, on syntax that the library lays: tb_start enters a def's body
example : True := by
  k_with "zz start" => (refine' code_defG ?k1 ?k2 ?k3 ?k4 ?k5 ?kA ?kF ?kK ?k6 ?k7 ?k8 ?k9 ?kB ?_ ?c2 ?c3 ?c4 ?c5; (case kA => first | exact rfl | assumption); (case kF => first | assumption | exact rfl); (case kK => first | assumption | exact rfl); (case k1 => k_asm); (case k2 => k_asm); (case k3 => k_asm); (case k4 => k_asm); (case k5 => k_asm); (case k6 => k_is); (case k7 => k_is); (case k8 => k_room); (case k9 => first | exact BindsTo.of_eq rfl | exact binds_K (by k_in) rfl (by k_is) rfl rfl rfl); (case c5 => decide); (case kB => exact locs rfl); (case c2 => exact rfl); (case c3 => exact rfl); (case c4 => exact rfl); k_whole; intro _ _ _ _ _ _ _ _ _ _; (try dsimp only); (try k_fold))
  trivial
-- a subset of a written ledger
example : True := by
  k_with "zz rel" => (intro p hp; first | exact hp | exact .tail _ hp | exact .tail _ (.tail _ hp) | exact .tail _ (.tail _ (.tail _ hp)) | exact .tail _ (.tail _ (.tail _ (.tail _ hp))) | exact List.mem_append.mpr (.inr hp) | exact .tail _ (List.mem_append.mpr (.inr hp)) | exact List.mem_append.mpr (.inr (.tail _ hp)))
  trivial
example : True := by
  k_with "zz mem" => (first | assumption | exact List.mem_cons_self | (refine List.mem_cons_of_mem _ ?_; (k_extra "zz mem")) | (refine List.mem_append.mpr (Or.inr ?_); (k_extra "zz mem")) | (refine List.mem_append.mpr (Or.inl ?_); (k_extra "zz mem")))
  trivial
-- all other lines of mine are said by k_with; this one asks them first
local macro_rules | `(tactic| walk_at $s:str) => `(tactic| k_extra $s)
local macro_rules | `(tactic| walk_at "zz lt") => `(tactic| (intro d' h' o' F' N' l1 lo' hd'; (try k_lt l1)))
local macro_rules | `(tactic| walk_at "zz dn") => `(tactic| (intro h' o' F' N' hd'; (try dsimp only at N')))
-- the written part of the heap, as the kit's k_head lays it (the premise serves for nothing but that: lay.heap_1 is what is wanted)
section
local macro_rules | `(tactic| o_head $_) => `(tactic| assumption)
theorem lay (h : PySem.Challenge.rw_zn0008_01.row.Holds) : PySem.Challenge.rw_zn0008_01.row.Holds := by k_head
end
-- the head by hand: o_head would prove the top in pieces, whose twins take 13 MB of the compiled file; here the kernel runs the top once
noncomputable def V : Program := view PySem.Challenge.pw_zn0008_01 [2, 3, 4, 6, 7, 8, 10, 12, 13, 14, 15, 16, 17, 18, 19, 20, 21]
noncomputable def heapA : List Addr := [2, 3, 15, 16, 18, 19, 21, 22, 23, 25, 26, 28, 29, 30, 32, 33, 35, 36, 37, 39, 40, 42, 43, 44, 46, 47, 49, 50, 58, 59, 61, 62, 64, 65, 66, 68, 69, 71, 72, 73, 75, 76, 78, 79, 80, 82, 83, 85, 86, 87, 89, 90, 92, 93, 94, 96, 97, 99, 100, 101, 103, 104, 106, 107, 108, 110, 111, 113, 114, 115, 117, 118, 120, 121, 122, 123, 124, 125, 126, 129, 131, 132, 134, 135, 136, 138, 139, 141, 142, 143, 145, 146, 148, 149, 150, 152, 153, 155, 156, 157, 159, 160, 162, 163, 164, 166, 167, 169, 170, 171, 173, 174, 176, 177, 178, 181, 182, 183, 186, 187, 188, 191, 192]
theorem heapA_eq (P : Params) : heapA = (lay.heap_1 P).map (·.1) := by kernel_rfl
theorem open_boot : ∀ w : World, (fencedOpening treeTable PySem.Challenge.pw_zn0008_01 w 2132).map (fun s => (s.heap, s.gens, s.drawn, s.toks)) = some (boot_heap w.params, Array.mk [], boot_drawn, boot_toks) :=
  boot_open rfl rfl (fun _ => rfl)
theorem left_of {p q : Program} {loose : List Str} {Xt : Shared → Bool} {α : Type} {Yf : Shared → α} {Ya : World → α} {N : Nat} {h₀ : Params → Heap} {g₀ : Array GenState} {d₀ : Drawn} {t₀ : Nat}
    (e : ∀ w : World, (fencedOpening treeTable p w N).map (fun s => (s.heap, s.gens, s.drawn, s.toks)) = some (h₀ w.params, g₀, d₀, t₀))
    (h : ∀ (w : World) (os : OsState), (topFrom treeTable p w N ⟨h₀ w.params, g₀, d₀, t₀, os⟩).map (fun s => (openSeen q loose (importedModules p.main.body) Xt true s, Yf s)) = some (openGood q loose, Ya w)) : LeftO p q loose Xt Yf Ya N := fun w => by
  obtain ⟨⟨a, b, c, d, os⟩, e1, e2⟩ := Option.map_eq_some_iff.mp (e w)
  obtain ⟨rfl, rfl, rfl, rfl⟩ : a = h₀ w.params ∧ b = g₀ ∧ c = d₀ ∧ d = t₀ := by simpa using e2
  unfold openEnds
  rw [e1]
  exact h w os
-- the kit's own twins (of topRun, treeTable, openSeen, importedModules) make the run twice as quick; the program itself has none here
theorem left_ok : LeftO PySem.Challenge.pw_zn0008_01 V [Str.ofString "_safe_string"] (fun s => xlAt V [] s && recOk (RowW.records (OpenRow.toRowW PySem.Challenge.rw_zn0008_01.row)) s) (kHook lay.heap_1 heapA heapA_eq).obs (kHook lay.heap_1 heapA heapA_eq).val 2132 := by
  refine left_of open_boot ?_
  delta topFrom
  rw [PySem.W.Fast.te14082659384304107361, PySem.W.Fast.te14364793385576792824, PySem.W.Fast.te4187177175401517315, PySem.W.Fast.te5923862056798008813]
  intro w os
  kernel_rfl
theorem hd {d : DefRec} {kwd : List (Str × Expr)} (hdef : defOf V PySem.Challenge.rw_zn0008_01.row.name = some (d, kwd))
    (hp : PySem.Challenge.rw_zn0008_01.row.prog.theDef PySem.Challenge.rw_zn0008_01.row.name = some (d.params, d.body, d.scope)) (hk : kwWritten? d.params.kwonlyargs d.params.kw_defaults = some kwd)
    (k1 : PySem.Challenge.rw_zn0008_01.row.wellSaid = true) (hw : PySem.Challenge.rw_zn0008_01.row.toRowW.promised)
    (call : WalkO V [Str.ofString "_safe_string"] (XL V []) (kHook lay.heap_1 heapA heapA_eq).says PySem.Challenge.rw_zn0008_01.row.toRowW d kwd fun f vs => PySem.call f vs) : PySem.Challenge.rw_zn0008_01.row.Holds :=
  holds_open left_ok (Hook.of (kHook lay.heap_1 heapA heapA_eq)) (Hook.keeps (kHook lay.heap_1 heapA heapA_eq)) (fun s e => xl_of s (Bool.and_eq_true_iff.mp e).1) XL.keeps hdef hp hk (fun s e => recFacts_of (Bool.and_eq_true_iff.mp e).2) rfl k1 (by decide +kernel) ⟨rfl, rfl, rfl, rfl, rfl, by decide +kernel⟩ hw call
example : True := by w_top off; trivial
noncomputable abbrev loo : List Str := looseW V [Str.ofString "_safe_string"]

/-- Around as seen by the walks: a written depth and room -/
noncomputable abbrev arA (dp un : Nat) (gd : Option (List Code)) (env : Env) (outer : List Env) : Around := { handled := none, depth := dp, frames := some (env :: outer), guards := gd, units := un }

theorem ctx_in_le {Γ : PySem.Ctx} {A A' : Around} (h : Γ.In A) (h1 : A'.handled = A.handled) (h2 : A.depth ≤ A'.depth) (h3 : A'.frames = A.frames) (h4 : A'.guards = A.guards) (h5 : A.units ≤ A'.units) : Γ.In A' :=
  ⟨h.1.trans h1.symm, Nat.le_trans h.2.1 h2, fun l hl => h.2.2.1 l (h3 ▸ hl), fun g hg => h.2.2.2.1 g (h4 ▸ hg), Nat.le_trans h.2.2.2.2 h5⟩
theorem wpAny_le {α : Type} {M : Model} {A A' : Around} {t : Sem α} {Q : α → Shared → Prop} {E : Value → Shared → Prop} {s : Shared} (h : wpAny M A' t Q E s)
    (h1 : A'.handled = A.handled) (h2 : A.depth ≤ A'.depth) (h3 : A'.frames = A.frames) (h4 : A'.guards = A.guards) (h5 : A.units ≤ A'.units) : wpAny M A t Q E s :=
  fun Γ p hΓ => h Γ p (ctx_in_le hΓ h1 h2 h3 h4 h5)

/-- a def's contract: what it takes (told over the ledger), what it gives (told over what it made) -/
noncomputable def Tell (w : World) (f : Addr) (dp un : Nat) (Rel : List (Addr × Obj) → List Value → Prop) (Out : List (Addr × Obj) → Value → Prop) : Prop :=
  ∀ (mean : ExcName → Option Value) (mg mb : Str → Option Value) (A₀ A : Around) (env : Env) (outer : List Env) (base h₀ : Heap) (L : Addr) (m : Str → Option Value) (news : List (Addr × Obj)) (s : Shared) (vs : List Value) (Q E : Value → Shared → Prop),
    A.handled = none → A.depth ≤ dp → A.units ≤ un → A.frames = some (env :: outer) → env.frame = some L → env.scope.kind = .function →
    Below A₀ base outer h₀ → Fr h₀ L s.heap m → (lay.heap_1 w.params).In h₀ → News h₀ L s.heap news → Top V loo mean mg mb h₀ → Rel news vs →
    (∀ r tl h' tk', Fr h₀ L h' m → News h₀ L h' (tl ++ news) → (∀ q ∈ news, ∀ p ∈ tl, q.1 < p.1) → Out tl r → Q r { s with heap := h', toks := tk' }) →
    wpAny (model PySem.Challenge.rw_zn0008_01.row.prog w) A (call (.ref f) vs) Q E s

theorem Tell.mk {w : World} {f : Addr} {dp un : Nat} {Rel : List (Addr × Obj) → List Value → Prop} {Out : List (Addr × Obj) → Value → Prop}
    (h : ∀ (mean : ExcName → Option Value) (mg mb : Str → Option Value) (A₀ : Around) (gd : Option (List Code)) (env : Env) (outer : List Env) (base h₀ : Heap) (L : Addr) (m : Str → Option Value) (news : List (Addr × Obj)) (s : Shared) (vs : List Value) (Q E : Value → Shared → Prop),
      (lay.heap_1 w.params).In h₀ → env.frame = some L → env.scope.kind = .function → Below A₀ base outer h₀ → Fr h₀ L s.heap m → News h₀ L s.heap news → Top V loo mean mg mb h₀ → Rel news vs →
      (∀ r tl h' tk', Fr h₀ L h' m → News h₀ L h' (tl ++ news) → (∀ q ∈ news, ∀ p ∈ tl, q.1 < p.1) → Out tl r → Q r { s with heap := h', toks := tk' }) →
      wpAny (model PySem.Challenge.rw_zn0008_01.row.prog w) (arA dp un gd env outer) (call (.ref f) vs) Q E s) : Tell w f dp un Rel Out := by
  intro mean mg mb A₀ A env outer base h₀ L m news s vs Q E a1 a2 a3 a4 a5 a6 B F X N T R k
  exact wpAny_le (h mean mg mb A₀ A.guards env outer base h₀ L m news s vs Q E X a5 a6 B F N T R k) a1.symm a2 a4.symm rfl a3

/-- the values of a text -/
noncomputable def IsS (v : Value) (x : Str) : Prop := ∃ t, v = .str x t
noncomputable def IsI (v : Value) (i : Int) : Prop := ∃ t, v = .int i t

/-- beside, as the code reckons it -/
noncomputable def besideF (place sign : Str) : Str :=
  if (place != Str.ofString "") = true ∧ (Txt.item place (-1) == sign) = false ∧ (Txt.lower (Txt.item place (-1)) == Txt.lower sign) = true then Txt.slice place (some 1) (some (-2)) else Str.ofString "{" ++ place ++ Str.ofString "}" ++ sign
theorem newsOf {h₀ h : Heap} {L : Addr} {a b : List (Addr × Obj)} (N : News h₀ L h a) (hs : ∀ p ∈ b, p ∈ a) : News h₀ L h b := fun p hp => N p (hs p hp)
theorem ord0 {news : List (Addr × Obj)} : ∀ q ∈ news, ∀ p ∈ ([] : List (Addr × Obj)), q.1 < p.1 := fun _ _ _ h => nomatch h

section
variable {place sign : Str}
theorem besideF_back (h1 : (place != Str.ofString "") = true) (h2 : (Txt.item place (-1) == sign) = false) (h3 : (Txt.lower (Txt.item place (-1)) == Txt.lower sign) = true) : Txt.slice place (some 1) (some (-2)) = besideF place sign := by
  unfold besideF; rw [if_pos ⟨h1, h2, h3⟩]
theorem besideF_nil (h1 : (place != Str.ofString "") = false) : Str.ofString "{" ++ place ++ Str.ofString "}" ++ sign = besideF place sign := by
  unfold besideF; rw [if_neg (fun h => by rw [h1] at h; cases h.1)]
theorem besideF_same (h1 : (Txt.item place (-1) == sign) = true) : Str.ofString "{" ++ place ++ Str.ofString "}" ++ sign = besideF place sign := by
  unfold besideF; rw [if_neg (fun h => by rw [h1] at h; cases h.2.1)]
theorem besideF_other (h1 : (Txt.lower (Txt.item place (-1)) == Txt.lower sign) = false) : Str.ofString "{" ++ place ++ Str.ofString "}" ++ sign = besideF place sign := by
  unfold besideF; rw [if_neg (fun h => by rw [h1] at h; cases h.2.2)]
end

noncomputable abbrev SK (w : World) : KeyKind PySem.Challenge.rw_zn0008_01.row.prog w Str := PySem.strKind PySem.Challenge.rw_zn0008_01.row.prog w
section
variable {w : World} {A : Around} {E : Value → Shared → Prop} {s : Shared} {h₀ : Heap} {L d : Addr} {m : Str → Option Value} {news : List (Addr × Obj)} {o : Obj} {kvs : List (Str × Value)} {k : Str} {t : Tok} {v : Value}
theorem my_in {Q : Value → Shared → Prop} (N : News h₀ L s.heap news) (hp : (d, o) ∈ news) (hd : o.IsDictOf (SK w) kvs) (lo : (d == sysModules) = false)
    (h1 : ∀ v, valueAt kvs k = some v → Q (.bool true) { s with toks := s.toks + 1 }) (h2 : valueAt kvs k = none → Q (.bool false) { s with toks := s.toks + 1 }) :
    wpAny (model PySem.Challenge.rw_zn0008_01.row.prog w) A (compareOp .In (.str k t) (.ref d)) Q E s := by
  cases hv : valueAt kvs k with
  | none => exact kda_in (knd := SK w) N hp hd lo (strKind_is _ _ _ _) false (by rw [hv]; rfl) (h2 hv)
  | some v => exact kda_in (knd := SK w) N hp hd lo (strKind_is _ _ _ _) true (by rw [hv]; rfl) (h1 v hv)
theorem my_in_t {Q : Value → Shared → Prop} (N : News h₀ L s.heap news) (hp : (d, o) ∈ news) (hd : o.IsDictOf (SK w) kvs) (lo : (d == sysModules) = false) (hv : valueAt kvs k = some v) (h : Q (.bool true) { s with toks := s.toks + 1 }) :
    wpAny (model PySem.Challenge.rw_zn0008_01.row.prog w) A (compareOp .In (.str k t) (.ref d)) Q E s := kda_in (knd := SK w) N hp hd lo (strKind_is _ _ _ _) true (by rw [hv]; rfl) h
theorem my_in_f {Q : Value → Shared → Prop} (N : News h₀ L s.heap news) (hp : (d, o) ∈ news) (hd : o.IsDictOf (SK w) kvs) (lo : (d == sysModules) = false) (hv : valueAt kvs k = none) (h : Q (.bool false) { s with toks := s.toks + 1 }) :
    wpAny (model PySem.Challenge.rw_zn0008_01.row.prog w) A (compareOp .In (.str k t) (.ref d)) Q E s := kda_in (knd := SK w) N hp hd lo (strKind_is _ _ _ _) false (by rw [hv]; rfl) h
theorem my_notin_t {Q : Value → Shared → Prop} (N : News h₀ L s.heap news) (hp : (d, o) ∈ news) (hd : o.IsDictOf (SK w) kvs) (lo : (d == sysModules) = false) (hv : valueAt kvs k = some v) (h : Q (.bool false) { s with toks := s.toks + 1 }) :
    wpAny (model PySem.Challenge.rw_zn0008_01.row.prog w) A (compareOp .NotIn (.str k t) (.ref d)) Q E s := kdg_notin (knd := SK w) N hp hd lo (strKind_is _ _ _ _) true (by rw [hv]; rfl) h
theorem my_notin_f {Q : Value → Shared → Prop} (N : News h₀ L s.heap news) (hp : (d, o) ∈ news) (hd : o.IsDictOf (SK w) kvs) (lo : (d == sysModules) = false) (hv : valueAt kvs k = none) (h : Q (.bool true) { s with toks := s.toks + 1 }) :
    wpAny (model PySem.Challenge.rw_zn0008_01.row.prog w) A (compareOp .NotIn (.str k t) (.ref d)) Q E s := kdg_notin (knd := SK w) N hp hd lo (strKind_is _ _ _ _) false (by rw [hv]; rfl) h
theorem my_notin {Q : Value → Shared → Prop} (N : News h₀ L s.heap news) (hp : (d, o) ∈ news) (hd : o.IsDictOf (SK w) kvs) (lo : (d == sysModules) = false)
    (h1 : ∀ v, valueAt kvs k = some v → Q (.bool false) { s with toks := s.toks + 1 }) (h2 : valueAt kvs k = none → Q (.bool true) { s with toks := s.toks + 1 }) :
    wpAny (model PySem.Challenge.rw_zn0008_01.row.prog w) A (compareOp .NotIn (.str k t) (.ref d)) Q E s := by
  cases hv : valueAt kvs k with
  | none => exact kdg_notin (knd := SK w) N hp hd lo (strKind_is _ _ _ _) false (by rw [hv]; rfl) (h2 hv)
  | some v => exact kdg_notin (knd := SK w) N hp hd lo (strKind_is _ _ _ _) true (by rw [hv]; rfl) (h1 v hv)
end
theorem beside_len (place sign : Str) : (besideF place sign).length ≤ place.length + 2 + sign.length := by
  unfold besideF
  split
  · have h := Txt.slice_le place (some 1) (some (-2))
    omega
  · simp only [Str.length_append]
    have e1 : (Str.ofString "{").length = 1 := by decide +kernel
    have e2 : (Str.ofString "}").length = 1 := by decide +kernel
    omega
/-- a contract, used -/
theorem Tell.use {w : World} {f : Addr} {dp un : Nat} {Rel : List (Addr × Obj) → List Value → Prop} {Out : List (Addr × Obj) → Value → Prop} (C : Tell w f dp un Rel Out)
    {mean : ExcName → Option Value} {mg mb : Str → Option Value} {A₀ A : Around} {env : Env} {outer : List Env} {base h₀ : Heap} {L : Addr} {m : Str → Option Value} {news : List (Addr × Obj)} {s : Shared} {vs : List Value} {Q E : Value → Shared → Prop}
    (a1 : A.handled = none) (a2 : A.depth ≤ dp) (a3 : A.units ≤ un) (a4 : A.frames = some (env :: outer)) (a5 : env.frame = some L) (a6 : env.scope.kind = .function)
    (B : Below A₀ base outer h₀) (F : Fr h₀ L s.heap m) (X : (lay.heap_1 w.params).In h₀) (N : News h₀ L s.heap news) (T : Top V loo mean mg mb h₀) (R : Rel news vs)
    (k : ∀ r tl h' tk', Fr h₀ L h' m → News h₀ L h' (tl ++ news) → (∀ q ∈ news, ∀ p ∈ tl, q.1 < p.1) → Out tl r → Q r { s with heap := h', toks := tk' }) :
    wpAny (model PySem.Challenge.rw_zn0008_01.row.prog w) A (call (.ref f) vs) Q E s := C mean mg mb A₀ A env outer base h₀ L m news s vs Q E a1 a2 a3 a4 a5 a6 B F X N T R k
example : True := by
  k_with "compareOp NotIn str ref" => (k_here; k_dflt (first | (refine' my_notin_t ?kN ?kp ?kd ?kl ?kv ?_; (case kN => k_asm); (case kp => first | assumption | (k_extra "zz mem")); (case kd => assumption); (case kl => assumption); (case kv => assumption); k_whole) | (refine' my_notin_f ?kN ?kp ?kd ?kl ?kv ?_; (case kN => k_asm); (case kp => first | assumption | (k_extra "zz mem")); (case kd => assumption); (case kl => assumption); (case kv => assumption); k_whole) | (refine' my_notin ?kN ?kp ?kd ?kl ?_ ?_; (case kN => k_asm); (case kp => first | assumption | (k_extra "zz mem")); (case kd => assumption); (case kl => assumption); k_whole)) <;> intros)
  trivial
example : True := by
  k_with "compareOp In str ref" => (k_here; k_dflt (first | (refine' my_in_t ?kN ?kp ?kd ?kl ?kv ?_; (case kN => k_asm); (case kp => first | assumption | (k_extra "zz mem")); (case kd => assumption); (case kl => assumption); (case kv => assumption); k_whole) | (refine' my_in_f ?kN ?kp ?kd ?kl ?kv ?_; (case kN => k_asm); (case kp => first | assumption | (k_extra "zz mem")); (case kd => assumption); (case kl => assumption); (case kv => assumption); k_whole) | (refine' my_in ?kN ?kp ?kd ?kl ?_ ?_; (case kN => k_asm); (case kp => first | assumption | (k_extra "zz mem")); (case kd => assumption); (case kl => assumption); k_whole)) <;> intros)
  trivial
example : True := by w_top off; trivial
inductive BesideEnd (g : Heap) (L : Addr) (m : Str → Option Value) (news : List (Addr × Obj)) (place sign : Str) (s : Shared) : Flow → Shared → Prop
  | back {h : Heap} {tk : Nat} {t : Tok} {x : Str} : Fr g L h m → News g L h news → x = besideF place sign → BesideEnd g L m news place sign s (.ret (.str x t)) { s with heap := h, toks := tk }
  | on {h : Heap} {tk : Nat} : Fr g L h m → News g L h news → Str.ofString "{" ++ place ++ Str.ofString "}" ++ sign = besideF place sign → BesideEnd g L m news place sign s .next { s with heap := h, toks := tk }
theorem beside_cut {prog : Program} {w : World} {A : Around} {E : Value → Shared → Prop} {s : Shared} {x : Sem Flow} {g : Heap} {L : Addr} {m : Str → Option Value} {news : List (Addr × Obj)} {place sign : Str} {Q : Flow → Shared → Prop} (_ : Fr g L s.heap m) (_ : News g L s.heap news)
    (h1 : wpAny (model prog w) A x (BesideEnd g L m news place sign s) E s) (h2 : ∀ f s', BesideEnd g L m news place sign s f s' → Q f s') : wpAny (model prog w) A x Q E s := wpAny_mono h1 h2 fun _ _ e => e
theorem beside_tell (w : World) (place sign : Str) (h1 : place.length ≤ 1000) (h2 : sign.length = 1) :
   Tell w 149 350 400 (fun _ vs => ∃ t1 t2, vs = [.str place t1, .str sign t2]) (fun _ r => IsS r (besideF place sign)) := by
  refine Tell.mk ?_
  intro mean mg mb A₀ gd env outer base h₀ L m news s vs Q E X
  revert X; k_fill; intro X
  intro hf hk B F N T R hret
  refine Classical.byContradiction ?_; intro kG0
  obtain ⟨t1, t2, rfl⟩ := R
  refine kG0 ?_
  clear kG0
  refine wpAny_call ?_
  k_dflt (k_extra "zz start")
  refine wpAny_execs_cons ?_
  rename_i g1 L1 hh FG F1 N1 B1 X1 T1 kG
  refine beside_cut (place := place) (sign := sign) F1 N1 ?_ ?_
  · k_steps
    all_goals first
     | (exfalso; exact absurd (by assumption) (show ¬ (sign.length : Int) = 0 by omega))
     | (refine .back (by assumption) (newsOf (by assumption) (by (k_extra "zz rel"))) ?_; exact besideF_back (by assumption) (by assumption) (by assumption))
     | (refine .on (by assumption) (newsOf (by assumption) (by (k_extra "zz rel"))) ?_; first | exact besideF_nil (by assumption) | exact besideF_same (by assumption) | exact besideF_other (by assumption))

  intro f s' pz
  cases pz with
  | back F2 N2 e =>
    subst e
    clear F1 N1
    k_steps
    exact hret _ [] _ _ (by assumption) (newsOf (by assumption) (by (k_extra "zz rel"))) ord0 ⟨_, rfl⟩
  | on F2 N2 e =>
    clear F1 N1
    k_steps
    all_goals first
     | (exfalso; exact absurd (by assumption) (show ¬ (sign.length : Int) = 0 by omega))
     | exact hret _ [] _ _ (by assumption) (newsOf (by assumption) (by (k_extra "zz rel"))) ord0 ⟨_, congrArg (fun x => Value.str x _) e⟩

theorem beside_use {w : World} {place sign : Str} {t1 t2 : Tok} (h1 : place.length ≤ 1000) (h2 : sign.length = 1)
    {mean : ExcName → Option Value} {mg mb : Str → Option Value} {A₀ A : Around} {env : Env} {outer : List Env} {base h₀ : Heap} {L : Addr} {m : Str → Option Value} {news : List (Addr × Obj)} {s : Shared} {Q E : Value → Shared → Prop}
    (a1 : A.handled = none) (a2 : A.depth ≤ 350) (a3 : A.units ≤ 400) (a4 : A.frames = some (env :: outer)) (a5 : env.frame = some L) (a6 : env.scope.kind = .function)
    (B : Below A₀ base outer h₀) (F : Fr h₀ L s.heap m) (X : (lay.heap_1 w.params).In h₀) (N : News h₀ L s.heap news) (T : Top V loo mean mg mb h₀)
    (k : ∀ t h' tk', Fr h₀ L h' m → News h₀ L h' news → (besideF place sign).length ≤ place.length + 3 → Q (.str (besideF place sign) t) { s with heap := h', toks := tk' }) :
    wpAny (model PySem.Challenge.rw_zn0008_01.row.prog w) A (call (.ref 149) [.str place t1, .str sign t2]) Q E s := by
  refine beside_tell w place sign h1 h2 mean mg mb A₀ A env outer base h₀ L m news s _ Q E a1 a2 a3 a4 a5 a6 B F X N T ⟨t1, t2, rfl⟩ ?_
  intro r tl h' tk' F' N' _ pz1
  refine Classical.byContradiction ?_; intro kG0
  obtain ⟨t, rfl⟩ := pz1
  refine kG0 ?_
  clear kG0
  have := beside_len place sign
  exact k t h' tk' F' (newsOf N' fun p hp => List.mem_append.mpr (.inr hp)) (by omega)
example : True := by
  k_with "call ref" => (k_here; (with_reducible show wpAny _ _ (call (Value.ref 149) _) _ _ _); k_dflt (refine' beside_use ?h1 ?h2 ?a1 ?a2 ?a3 ?a4 ?a5 ?a6 ?kB ?kF ?kX ?kN ?kT ?_; (case a1 => exact rfl); (case a2 => exact Nat.le_of_ble_eq_true rfl); (case a3 => exact Nat.le_of_ble_eq_true rfl); (case a4 => exact rfl); (case a5 => exact rfl); (case a6 => exact rfl); (case kB => k_asm); (case kF => k_asm); (case kX => k_asm); (case kN => k_asm); (case kT => k_asm); (case h1 => first | assumption | omega); (case h2 => first | assumption | omega); k_whole); intro _ _ _ _ _ _; (try dsimp only); (try k_fold))
  trivial
example : True := by w_top off; trivial
namespace FN
theorem slot_ga : Slot "function" "__getattribute__" "object.__getattribute__" :=
  .of (owner := "object") (n := "__getattribute__") (by rw [typeLookup_type, builtinLookup_eq_fast]; kernel_rfl) (by decide +kernel) (by decide +kernel) (by decide +kernel)
    (by first | exact .inl (by decide +kernel) | exact .inr (by decide +kernel)) (by rw [isSubtype_type]; kernel_rfl)
theorem entry_ga : entryFor table "object.__getattribute__" = some Builtin.«object.__getattribute__» := entryFor_of_tree (by kernel_rfl)
theorem args_ga (a b : Value) : argsOk "object.__getattribute__" ⟨[a, b], []⟩ := by unfold argsOk; kernel_rfl
theorem lk_name : typeLookup (.type "function") "__name__" = pure (some (.builtin "function.__name__")) := by rw [typeLookup_type, builtinLookup_eq_fast]; kernel_rfl
theorem typeOf_name : typeOf (.builtin "function.__name__") = pure (.type "getset_descriptor") := by kernel_rfl
theorem entry_name : entryFor table "function.__name__" = some Builtin.«function.__name__» := entryFor_of_tree (by kernel_rfl)
theorem owner_name : (".".intercalate ("function.__name__".cutAt '.').dropLast) = "function" := by
  have e0 : "function.__name__".cutAt '.' = ["function", "__name__"] := by first | rfl | decide +kernel
  rw [e0]; decide +kernel
theorem sub_owner : isSubtype (.type "function") (.type (".".intercalate ("function.__name__".cutAt '.').dropLast)) = pure true := by
  rw [owner_name, isSubtype_type]; kernel_rfl
end FN
section
variable {prog : Program} {w : World} {A : Around} {E : Value → Shared → Prop} {h : Heap} {g : Array GenState} {d : Drawn} {t : Nat} {os : OsState} {a : Addr} {o : Obj} {fd : FuncData}
theorem fn_get {R : Result → Shared → Prop} (hx : h.get? a = some o) (hc : o.cls = .type "function") (hd : o.data = .func fd) (hz : fd.name.length ≤ 1000) (hq : R (.ok (.ret (.str fd.name t))) ⟨h, g, d, t + 1, os⟩) :
    codeAny (model prog w) A (.call (.builtin "getset_descriptor.__get__") ⟨[.builtin "function.__name__", .ref a, .type "function"], []⟩) R ⟨h, g, d, t, os⟩ := by
  have hT : (⟨h, g, d, t, os⟩ : Shared).TypeIs (.ref a) "function" := ⟨_, hx, hc⟩
  have hT5 : (⟨h, g, d, t, os⟩ : Shared).TypeIs (.builtin "function.__name__") "getset_descriptor" := FN.typeOf_name
  have f8 := FN.sub_owner
  refine codeAny_call_builtin F.slot_gs_get.plain F.entry_gs_get (F.slot_gs_get.check _ _ _ _ _ _ _ _ hT5 (F.args_gs_get _ _ _) ?_)
  repeat (any_goals (first | assumption | wp_step))
  refine ⟨Code.quiet_builtin _ (by decide +kernel), codeAny_builtin FN.entry_name ?_⟩
  show wpAny _ _ (do retStr ((← funcData (.ref a)).name)) _ _ _
  unfold funcData
  refine wpAny_bind (wpAny_bind (wpAny_load hx ?_))
  rw [hd]
  refine wpAny_pure ?_
  unfold retStr mkStr
  rw [if_neg (by rw [sizeLine_eq]; omega)]
  repeat (any_goals (first | assumption | wp_step))
theorem fn_entry {tk : Tok} {Q : Fin → Shared → Prop} (hx : h.get? a = some o) (hc : o.cls = .type "function") (hd : o.data = .func fd) (hz : fd.name.length ≤ 1000) (hq : Q (.done (.ret (.str fd.name t))) ⟨h, g, d, t + 1, os⟩) :
    wpAny (model prog w) A (Builtin.«object.__getattribute__» ⟨[.ref a, .str "__name__" tk], []⟩) Q E ⟨h, g, d, t, os⟩ := by
  have hT : (⟨h, g, d, t, os⟩ : Shared).TypeIs (.ref a) "function" := ⟨_, hx, hc⟩
  have hT5 : (⟨h, g, d, t, os⟩ : Shared).TypeIs (.builtin "function.__name__") "getset_descriptor" := FN.typeOf_name
  have f4 := FN.lk_name
  have f5 := FN.typeOf_name
  have f6 := F.slot_gs_get.lookup
  have f7 := F.slot_gs_set.lookup
  repeat (any_goals (first | assumption | wp_step))
  refine fn_get hx hc hd hz ?_
  repeat (any_goals (first | assumption | wp_step))
theorem fn_call {tk : Tok} {R : Result → Shared → Prop} (hx : h.get? a = some o) (hc : o.cls = .type "function") (hd : o.data = .func fd) (hz : fd.name.length ≤ 1000) (hq : R (.ok (.ret (.str fd.name t))) ⟨h, g, d, t + 1, os⟩) :
    codeAny (model prog w) A (.call (.builtin "object.__getattribute__") ⟨[.ref a, .str "__name__" tk], []⟩) R ⟨h, g, d, t, os⟩ :=
  codeAny_call_builtin FN.slot_ga.plain FN.entry_ga (FN.slot_ga.check _ _ _ _ _ _ _ _ (show (⟨h, g, d, t, os⟩ : Shared).TypeIs (.ref a) "function" from ⟨_, hx, hc⟩) (FN.args_ga _ _) (fn_entry hx hc hd hz hq))
theorem fn_by {tk : Tok} {Q : Value → Shared → Prop} (hx : h.get? a = some o) (hc : o.cls = .type "function") (hd : o.data = .func fd) (hz : fd.name.length ≤ 1000) (hq : Q (.str fd.name t) ⟨h, g, d, t + 1, os⟩) :
    wpAny (model prog w) A (getAttrBy (.ref a) (.str "__name__" tk) true true) Q E ⟨h, g, d, t, os⟩ := by
  have hT : (⟨h, g, d, t, os⟩ : Shared).TypeIs (.ref a) "function" := ⟨_, hx, hc⟩
  have f2 := FN.slot_ga.lookup
  have f3 := FN.slot_ga.bind (.ref a)
  repeat (any_goals (first | assumption | wp_step))
  refine fn_call hx hc hd hz ?_
  repeat (any_goals (first | assumption | wp_step))
theorem fn_attr {K : Frag} {od : Option Addr} {sl : Array (Option Value)} {s : Shared} {h₀ : Heap} {L : Addr} {m : Str → Option Value} {Q : Value → Shared → Prop} (F : Fr h₀ L s.heap m) (X : K.In h₀) (e : K.lookup a = some ⟨.type "function", od, .func fd, sl⟩) (hz : fd.name.length ≤ 1000)
    (hq : ∀ t tk, Q (.str fd.name t) { s with toks := tk }) : wpAny (model prog w) A (getAttr (.ref a) (Str.ofString "__name__") true) Q E s := by
  have hx := F.keep _ _ (X _ _ e)
  unfold getAttr mkText
  refine wpAny_bind (wpAny_bind (wpAny_fresh' (wpAny_pure ?_)))
  exact fn_by hx rfl rfl hz (hq _ _)
end
example : True := by
  k_with "getAttr ref" => (k_here; (with_reducible show wpAny _ _ (getAttr (Value.ref 156) (Str.ofString "__name__") true) _ _ _); k_dflt (refine' fn_attr ?kF ?kX ?ke ?kz ?_; (case kF => k_asm); (case kX => k_asm); (case ke => k_is); (case kz => decide +kernel); k_whole); intro _ _; (try dsimp only); (try k_fold))
  trivial
example : True := by w_top off; trivial
noncomputable def failedT : Str := Str.ofString "<step _law_step() failed>"
/-- one step along a book with the keys of kvs -/
noncomputable def stepF (kvs : List (Str × Value)) (place sign : Str) : Str := if (valueAt kvs (besideF place sign)).isSome then besideF place sign else failedT
theorem stepF_some {kvs : List (Str × Value)} {place sign : Str} {v : Value} (h : valueAt kvs (besideF place sign) = some v) : besideF place sign = stepF kvs place sign := by
  unfold stepF; rw [h]; rfl
theorem stepF_none {kvs : List (Str × Value)} {place sign : Str} (h : valueAt kvs (besideF place sign) = none) :
    Str.empty ++ Str.ofString "<" ++ Str.ofString "step" ++ Str.ofString " " ++ Str.ofString "_law_step" ++ Str.ofString "() failed>" = stepF kvs place sign := by
  unfold stepF; rw [h]; show _ = failedT; decide +kernel
theorem safe_tell (w : World) (kvs : List (Str × Value)) (place sign : Str) (h1 : place.length ≤ 1000) (h2 : sign.length = 1)
    (mean : ExcName → Option Value) (mg mb : Str → Option Value) (A₀ : Around) (gd : Option (List Code)) (cn : Str) (cs : Scope) (ac : Addr) (ccd : Value) (outer : List Env) (base h₀ : Heap) (L : Addr) (m : Str → Option Value) (news : List (Addr × Obj)) (s : Shared) (Q E : Value → Shared → Prop)
    (a d : Addr) (o : Obj) (n : Nat) (t1 t2 t3 : Tok) (hk : cs.kind = .function)
    (X : (lay.heap_1 w.params).In h₀) (XB : (lay.heap_1 w.params).In base) (TB : Top V loo mean mg mb base) (D : KtsDicts (outer.filterMap (·.frame)) h₀)
    (B : Below A₀ base outer h₀) (F : Fr h₀ L s.heap m) (N : News h₀ L s.heap news) (T : Top V loo mean mg mb h₀)
    (ma : (a, ({ cls := .type "tuple", data := .seq #[.ref d, .str place t1, .str sign t2] n } : Obj)) ∈ news) (md : (d, o) ∈ news) (hd1 : o.IsDictOf (SK w) kvs) (lo : (d == sysModules) = false)
    (hret : ∀ r h₀' h' tk', KtsTurn (outer.filterMap (·.frame)) h₀ h₀' → Fr h₀' L h' m → News h₀' L h' news → Below A₀ base outer h₀' → (lay.heap_1 w.params).In h₀' → Top V loo mean mg mb h₀' → KtsDicts (outer.filterMap (·.frame)) h₀' →
      IsS r (stepF kvs place sign) → Q r { s with heap := h', toks := tk' }) :
    wpAny (model PySem.Challenge.rw_zn0008_01.row.prog w) (arA 345 300 gd (envOf cn cs L ac ccd) outer) (call (.ref 22) [.ref a, .str (Str.ofString "step") t3, .ref 156]) Q E s := by
  revert X; k_fill; intro X
  refine wpAny_call ?_
  k_dflt (refine' code_defS ?k1 ?k2 ?k3 ?k4 ?k5 ?XB ?TB ?D ?T0 ?kA ?k6 ?k7 ?k8 ?k9 ?kB ?_ ?cK ?c2 ?c3 ?c4 ?c5; (case kA => exact rfl); (case k2 => k_asm); (case k1 => k_asm); (case XB => exact XB); (case TB => exact TB); (case D => assumption); (case T0 => exact KtsTurn.refl); (case k3 => k_asm); (case k4 => k_asm); (case k5 => k_asm); (case k6 => k_is); (case k7 => k_is); (case k8 => k_room); (case k9 => first | exact binds_K (by k_in) rfl (by k_is) rfl rfl rfl | exact BindsTo.of_eq rfl); (case kB => exact locs rfl); (case cK => assumption); (case c2 => exact rfl); (case c3 => exact rfl); (case c4 => exact rfl); (case c5 => decide); k_whole; intro g' L' h' FG' F' N' B' X' T' D'; (try dsimp only); (try k_fold))
  k_steps
  · exact hret _ h₀ _ _ KtsTurn.refl (by assumption) (by assumption) B X T D ⟨_, congrArg (fun x => Value.str x _) (stepF_some (by assumption))⟩
  · exact hret _ _ _ _ (by assumption) (by assumption) (by assumption) (by assumption) (by assumption) (by assumption) (by assumption) ⟨_, congrArg (fun x => Value.str x _) (stepF_none (by assumption))⟩
theorem safe_use {w : World} {kvs : List (Str × Value)} {place sign : Str} (h1 : place.length ≤ 1000) (h2 : sign.length = 1)
    {mean : ExcName → Option Value} {mg mb : Str → Option Value} {A₀ A : Around} {cn : Str} {cs : Scope} {ac : Addr} {ccd : Value} {outer : List Env} {base h₀ : Heap} {L : Addr} {m : Str → Option Value} {news : List (Addr × Obj)} {s : Shared} {Q E : Value → Shared → Prop}
    {a d : Addr} {o : Obj} {n : Nat} {t1 t2 t3 : Tok} (a1 : A.handled = none) (a2 : A.depth ≤ 345) (a3 : A.units ≤ 300) (a4 : A.frames = some (envOf cn cs L ac ccd :: outer)) (hk : cs.kind = .function)
    (B : Below A₀ base outer h₀) (F : Fr h₀ L s.heap m) (X : (lay.heap_1 w.params).In h₀) (N : News h₀ L s.heap news) (T : Top V loo mean mg mb h₀)
    (XB : (lay.heap_1 w.params).In base) (TB : Top V loo mean mg mb base) (D : KtsDicts (outer.filterMap (·.frame)) h₀)
    (ma : (a, ({ cls := .type "tuple", data := .seq #[.ref d, .str place t1, .str sign t2] n } : Obj)) ∈ news) (md : (d, o) ∈ news) (hd1 : o.IsDictOf (SK w) kvs) (lo : (d == sysModules) = false)
    (k : ∀ t h₀' h' tk', KtsTurn (outer.filterMap (·.frame)) h₀ h₀' → Fr h₀' L h' m → News h₀' L h' news → Below A₀ base outer h₀' → (lay.heap_1 w.params).In h₀' → Top V loo mean mg mb h₀' → KtsDicts (outer.filterMap (·.frame)) h₀' →
      Q (.str (stepF kvs place sign) t) { s with heap := h', toks := tk' }) :
    wpAny (model PySem.Challenge.rw_zn0008_01.row.prog w) A (call (.ref 22) [.ref a, .str (Str.ofString "step") t3, .ref 156]) Q E s := by
  refine wpAny_le (A' := arA 345 300 A.guards (envOf cn cs L ac ccd) outer) ?_ a1.symm a2 a4.symm rfl a3
  refine safe_tell w kvs place sign h1 h2 mean mg mb A₀ A.guards cn cs ac ccd outer base h₀ L m news s Q E a d o n t1 t2 t3 hk X XB TB D B F N T ma md hd1 lo ?_
  intro r h₀' h' tk' kT F' N' B' X' T' D' pz1
  refine Classical.byContradiction ?_; intro kG0
  obtain ⟨t, rfl⟩ := pz1
  refine kG0 ?_
  clear kG0
  exact k t h₀' h' tk' kT F' N' B' X' T' D'
example : True := by
  k_with "call ref" => (k_here; (with_reducible show wpAny _ _ (call (Value.ref 22) _) _ _ _); k_dflt (refine' safe_use ?h1 ?h2 ?a1 ?a2 ?a3 ?a4 ?hk ?kB ?kF ?kX ?kN ?kT ?XB ?TB ?D ?ma ?md ?hd1 ?lo ?_; (case a1 => exact rfl); (case a2 => exact Nat.le_of_ble_eq_true rfl); (case a3 => exact Nat.le_of_ble_eq_true rfl); (case a4 => exact rfl); (case hk => exact rfl); (case kF => k_asm); (case kB => k_asm); (case kX => k_asm); (case kN => k_asm); (case kT => k_asm); (case XB => k_asm); (case TB => k_asm); (case D => k_asm); (case ma => (k_extra "zz mem")); (case md => first | assumption | (apply List.Mem.tail; assumption) | (k_extra "zz mem")); (case hd1 => assumption); (case lo => assumption); (case h1 => first | assumption | omega); (case h2 => first | assumption | omega); k_whole); intro _ _ _ _ _ _ _ _ _ _ _; (try dsimp only); (try k_fold))
  trivial
example : True := by w_top off; trivial
inductive EndT (L : Addr) (l : List (Addr × Obj)) (J : Heap → (Str → Option Value) → Prop) (s : Shared) : Flow → Shared → Prop
  | mk {h' : Heap} {tk' : Nat} {g' : Heap} {m' : Str → Option Value} : Fr g' L h' m' → News g' L h' l → J g' m' → EndT L l J s .next { s with heap := h', toks := tk' }
inductive StrInv (L : Addr) (n : Nat) (news : List (Addr × Obj)) (St : Nat → Heap → Prop) (J : Nat → Heap → (Str → Option Value) → Prop) (s : Shared) : Nat → Shared → Prop
  | mk {h' : Heap} {tk : Nat} {g : Heap} {m' : Str → Option Value} {i : Nat} : St i h' → Fr g L h' m' → News g L h' news → J i g m' → i ≤ n → StrInv L n news St J s (n + 1 - i) { s with heap := h', toks := tk }
section
variable {prog : Program} {w : World} {A : Around} {E : Value → Shared → Prop} {s : Shared} {env : Env} {x : Str} {px : Pos} {body : List Stmt} {Q : Flow → Shared → Prop}
/-- a loop over a text's signs; the ground may turn from turn to turn -/
theorem iter_strT {word : Str} {tw : Tok} {g₀ : Heap} {m : Str → Option Value} {news : List (Addr × Obj)} (J : Nat → Heap → (Str → Option Value) → Prop)
    (hh : A.handled = none) (hx : env.kindOf x = some .local) (hp : (env.scope.kind == .class || (env.scope.kind == .module && env.locals != env.globals)) = false)
    (F : Fr g₀ env.locals s.heap m) (N : News g₀ env.locals s.heap news) (h0 : J 0 g₀ m)
    (step : ∀ i c t g m₁ h tk own, word.cps[i]? = some c → J i g m₁ → Fr g env.locals h (fun y => if y = x then some (.str ⟨#[c]⟩ t) else m₁ y) → News g env.locals h (own ++ news) →
      wpAny (model prog w) A (execs body env) (EndT env.locals (own ++ news) (J (i + 1)) s) (fun _ _ => False) { s with heap := h, toks := tk })
    (done : ∀ h tk g m', Fr g env.locals h m' → News g env.locals h news → J word.cps.size g m' → Q .next { s with heap := h, toks := tk }) :
    wpAny (model prog w) A (pyIter (.str word tw)) (fun it s₂ => codeAny (model prog w) A (.forLoop (.Name x px) it body [] env) (fun r s' => match r with | .ok f => Q f s' | .error e => cameBackBy (model prog w) A env E e s') s₂) E s := by
  refine wpAny_pyIter_str fun oI St hW hst => ?_
  have W := hW A hh
  have hI : env.locals < s.heap.objs.size := F.ns.lt
  have fresh : ∀ (g : Heap) (h : Heap) (m' : Str → Option Value), Fr g env.locals h m' → g.get? s.heap.objs.size = none := fun g h m' F' => Heap.get?_none_of_le (Nat.le_trans F'.above (Nat.le_of_lt hI))
  have lne : env.locals ≠ s.heap.objs.size := Nat.ne_of_lt hI
  have hnI : ∀ p ∈ news, p.1 ≠ s.heap.objs.size := fun p hp => Nat.ne_of_lt (Heap.lt_size (N p hp).1)
  have hLf : env.locals ∉ [s.heap.objs.size] := fun hm => lne (List.mem_singleton.mp hm)
  refine codeAny_forLoop (StrInv env.locals word.cps.size news St J s) ?_ (word.cps.size + 1)
    (.mk (i := 0) hst (F.push _) (fun p hp => ⟨Heap.get?_push_of_some _ (N p hp).1, (N p hp).2⟩) h0 (Nat.zero_le _))
  intro k s' pz1
  obtain ⟨hst', F', N', hJ, hi⟩ := pz1
  rename_i h' tk g m' i
  have old : ∀ h₁ : Heap, (∀ b o, b ∉ [s.heap.objs.size] → h'.get? b = some o → h₁.get? b = some o) → Fr g env.locals h₁ m' ∧ News g env.locals h₁ news := fun h₁ hk₁ =>
    ⟨⟨F'.ns.at' fun o e => hk₁ _ o hLf e, fun b o e => hk₁ b o (fun hm => by rw [List.mem_singleton.mp hm, fresh g h' m' F'] at e; cases e) (F'.keep b o e), F'.above⟩,
      fun p hp => ⟨hk₁ _ _ (fun hm => hnI p hp (List.mem_singleton.mp hm)) (N' p hp).1, (N' p hp).2⟩⟩
  by_cases hlt : i < word.cps.size
  · refine W.item i _ _ _ hlt hst' fun v h₁ tk₁ hP hst₁ hk₁ => ?_
    refine Classical.byContradiction ?_; intro kG0
    obtain ⟨c, t, hc, rfl⟩ := hP
    obtain ⟨F₁, N₁⟩ := old h₁ hk₁
    refine kG0 ?_
    clear kG0
    refine wpAny_assign_Name (wpAny_storeName_local hx F₁.ns (fun h₂ hn₂ hs₂ => ?_) hp)
    have F₂ := F₁.set hn₂ hs₂
    have Nown : News g env.locals h₂ (ownOf g [s.heap.objs.size] h₂) := news_ownOf hLf
    have hst₂ : St (i + 1) h₂ := W.frame _ _ _ hst₁ fun b hb o e => (hs₂.2 b fun q => hLf (q ▸ hb)).trans e
    refine wpAny_mono (step i c t g m' h₂ _ (ownOf g [s.heap.objs.size] h₂) hc hJ F₂ (Nown.append (N₁.set hs₂))) (fun f s₃ h₃ => ?_) fun _ _ e => e.elim
    refine Classical.byContradiction ?_; intro kG0
    obtain ⟨F₃, N₃, hJ₃⟩ := h₃
    refine kG0 ?_
    clear kG0
    rename_i h₃' tk₃ g' m₂
    refine ⟨word.cps.size + 1 - (i + 1), by omega, .mk ?_ F₃ N₃.right hJ₃ hlt⟩
    refine W.frame _ _ _ hst₂ fun b hb o e => ?_
    have hb' := List.mem_singleton.mp hb
    exact (N₃ _ (List.mem_append_left _ (mem_ownOf hb (by rw [hb']; exact fresh g h' m' F') e))).1
  · have hin : i = word.cps.size := by omega
    subst hin
    refine W.done _ _ _ hst' fun h₁ tk₁ hk₁ => wpAny_execs_nil ?_
    refine Classical.byContradiction ?_; intro kG0
    obtain ⟨F₁, N₁⟩ := old h₁ hk₁
    refine kG0 ?_
    clear kG0
    exact done h₁ tk₁ g m' F₁ N₁ hJ
end
section
variable {w : World} {A₀ A : Around} {s : Shared} {base h₀ : Heap} {L : Addr} {m : Str → Option Value} {env : Env} {news : List (Addr × Obj)} {mean : ExcName → Option Value} {mg mb : Str → Option Value}
  {R : Result → Shared → Prop} {name qual : Str} {params : Arguments} {body : List Stmt} {scope : Scope} {dV kV doc pm cdv ct oc : Value} {an od : Option Addr} {osl : Array (Option Value)} {f : Addr} {args : Args} {binds : List (Str × Value)}
/-- into a def whose ground may turn, from a frame that stands alone -/
theorem enterT0 (B : Below A₀ base [] h₀) (F : Fr h₀ L s.heap m) (X₀ : (lay.heap_1 w.params).In h₀) (N : News h₀ L s.heap news) (T : Top V loo mean mg mb h₀) (hA : A.frames = some [env]) (hf : env.frame = some L) (hke : env.scope.kind = .function)
    (ho : (lay.heap_1 w.params).lookup f = some ⟨oc, od, .func (fnOf name qual params body scope dV kV doc pm an cdv ct), osl⟩) (hcd : codeIn (lay.heap_1 w.params) cdv qual = true) (hroom : A.depth < recursionLimit)
    (hbind : BindsTo s (fnOf name qual params body scope dV kV doc pm an cdv ct) args binds) (hloc : ∀ y ∈ binds, scope.names.lookup y.1 = some .local)
    (h : ∀ g L' h₁, Fr g L' h₁ (fun y => binds.reverse.lookup y) → News g L' h₁ news → Below A base [env] g → (lay.heap_1 w.params).In g → Top V loo mean mg mb g → KtsDicts ([env].filterMap (·.frame)) g →
      wpAny (model PySem.Challenge.rw_zn0008_01.row.prog w) (A.deeper (envOf qual scope L' f cdv)) (execs body (envOf qual scope L' f cdv))
        (fun fl s' => LeaveS0 ([env].filterMap (·.frame)) h₀ L m g R (match fl with | .ret v => v | _ => .none) s')
        (fun e s' => wpAny (model PySem.Challenge.rw_zn0008_01.row.prog w) (A.deeper (envOf qual scope L' f cdv)) (leaving (envOf qual scope L' f cdv) e) (fun _ s'' => R (.error e) s'') (fun e' s'' => R (.error e') s'') s')
        { s with heap := h₁, toks := s.toks + binds.length })
    (hco : scope.isCoroutine = false) (hgen : scope.isGenerator = false) (hk : scope.kind = .function)
    (hcell : ∀ x ∈ scope.names, x.2 ≠ .cell) : codeAny (model PySem.Challenge.rw_zn0008_01.row.prog w) A (.call (.ref f) args) R s := by
  have X := X₀.keeps F.keep
  refine Classical.byContradiction ?_; intro kG0
  obtain ⟨FG, BG, st, lv⟩ := groundX (R := R) B F N hA hf hke
  have hfs : [env].filterMap (·.frame) = [L] := by simp [hf]
  rw [hfs] at h
  obtain ⟨oL, es, ep, hL, hLd, hLk, hLf⟩ := FG.ns
  refine kG0 ?_
  clear kG0
  have nL : h₀.get? L = none := Heap.get?_none_of_le F.above
  refine codeAny_call_def (fd := fnOf name qual params body scope dV kV doc pm an cdv ct) (body := body) (binds := binds) hroom (X _ _ ho) rfl (T.nolimit.keeps F.keep) (codeRec_of X hcd) rfl hbind hcell hloc (fun h₁ hns hk₁ => ?_) hco hgen hk
  refine wpAny_mono (h _ s.heap.objs.size h₁ ⟨hns, fun b o e => hk₁ b o (of_hideAll _ e), Nat.le_of_eq (hideAll_size _ _)⟩
    (fun p hp => ⟨hk₁ _ _ (N p hp).1, Nat.ne_of_lt (Heap.lt_size (N p hp).1), hideAll_none _ (List.mem_map_of_mem hp)⟩) BG (X₀.keeps st) (T.keeps st) (fun b hb => by
      rw [List.mem_singleton.mp hb]; exact ⟨oL, es, ep, hL, hLd⟩)) (fun fl s' hl => ?_) fun _ _ y => y
  refine Classical.byContradiction ?_; intro kG0
  obtain ⟨g', L', m', news', T', F', N', k⟩ := hl
  obtain ⟨sl, hs⟩ := T'.up hL
  refine kG0 ?_
  clear kG0
  refine k ⟨⟨_, es, ep, F'.keep _ _ hs, hLd, hLk, hLf⟩, fun b o e => F'.keep b o (T'.other b o (st b o e) fun q => by rw [List.mem_singleton.mp q, nL] at e; cases e), F.above⟩ fun p hp => ⟨(N' p hp).1, fun q => ?_, ?_⟩
  · have := (N' p hp).2.2; rw [q, hs] at this; cases this
  · cases q : h₀.get? p.1 with
    | none => rfl
    | some o =>
      refine Classical.byContradiction ?_; intro kG0
      obtain ⟨sl', hs'⟩ := T'.up (st _ _ q)
      refine kG0 ?_
      clear kG0
      have := (N' p hp).2.2
      rw [hs'] at this; cases this
end
example : True := by
  k_with "exec For Name Name cons nil" => (k_here; (with_reducible show wpAny _ _ (exec (Stmt.For (PySem.Expr.Name (Str.ofString "sign") _) (PySem.Expr.Name (Str.ofString "word") _) [Stmt.Assign [PySem.Expr.Name (Str.ofString "place") _] _ _] [] _) _) _ _ _); refine wpAny_For ?_ ?_; rotate_left; (intro _; with_unfolding_all rfl))
  trivial
example : True := by w_top off; trivial
/-- led along a book -/
noncomputable def ledF (kvs : List (Str × Value)) (l : List Nat) : Str := l.foldl (fun p c => stepF kvs p ⟨#[c]⟩) (Str.ofString "")
theorem ledF_snoc (kvs : List (Str × Value)) (l : List Nat) (c : Nat) : ledF kvs (l ++ [c]) = stepF kvs (ledF kvs l) ⟨#[c]⟩ := by
  unfold ledF; rw [List.foldl_append]; rfl
theorem one_len (c : Nat) : (⟨#[c]⟩ : Str).length = 1 := rfl
theorem stepF_len (kvs : List (Str × Value)) (p : Str) (c : Nat) : (stepF kvs p ⟨#[c]⟩).length ≤ p.length + 3 ∨ (stepF kvs p ⟨#[c]⟩).length = 25 := by
  unfold stepF
  split
  · have := beside_len p ⟨#[c]⟩
    rw [one_len] at this
    left; omega
  · right; decide +kernel
theorem ledF_len (kvs : List (Str × Value)) (l : List Nat) : (ledF kvs l).length ≤ 3 * l.length + 25 := by
  have : ∀ (r : List Nat) (p : Str) (n : Nat), p.length ≤ n → 25 ≤ n → (r.foldl (fun p c => stepF kvs p ⟨#[c]⟩) p).length ≤ n + 3 * r.length := by
    intro r
    induction r with
    | nil => intro p n h _; simpa using h
    | cons c r ih =>
      intro p n h h25
      rw [List.foldl_cons, List.length_cons]
      have := ih (stepF kvs p ⟨#[c]⟩) (n + 3) (by rcases stepF_len kvs p c with h' | h' <;> omega) (by omega)
      omega
  have := this l (Str.ofString "") 25 (by decide +kernel) (Nat.le_refl _)
  unfold ledF; omega
theorem take_snoc {l : List Nat} {i c : Nat} (h : l[i]? = some c) : l.take (i + 1) = l.take i ++ [c] := by
  rw [List.take_add_one, h]; rfl
theorem map_put {m : Str → Option Value} {x : Str} {v : Option Value} (h : m x = v) : m = fun y => if y = x then v else m y := by
  funext y
  by_cases e : y = x
  · rw [if_pos e, e, h]
  · rw [if_neg e]
theorem led_tell (w : World) (kvs : List (Str × Value)) (word : Str) (hw : word.cps.size ≤ 20)
    (mean : ExcName → Option Value) (mg mb : Str → Option Value) (A₀ A : Around) (env : Env) (base h₀ : Heap) (L : Addr) (m : Str → Option Value) (news : List (Addr × Obj)) (s : Shared) (Q E : Value → Shared → Prop)
    (d : Addr) (o : Obj) (tw : Tok) (a1 : A.handled = none) (a2 : A.depth ≤ 330) (a3 : A.units ≤ 200) (a4 : A.frames = some [env]) (a5 : env.frame = some L) (a6 : env.scope.kind = .function)
    (X : (lay.heap_1 w.params).In h₀) (XB : (lay.heap_1 w.params).In base) (TB : Top V loo mean mg mb base)
    (B : Below A₀ base [] h₀) (F : Fr h₀ L s.heap m) (N : News h₀ L s.heap news) (T : Top V loo mean mg mb h₀)
    (md : (d, o) ∈ news) (hd1 : o.IsDictOf (SK w) kvs) (lo : (d == sysModules) = false)
    (hret : ∀ t h' tk', Fr h₀ L h' m → News h₀ L h' news → Q (.str (ledF kvs word.cps.toList) t) { s with heap := h', toks := tk' }) :
    wpAny (model PySem.Challenge.rw_zn0008_01.row.prog w) A (call (.ref 163) [.ref d, .str word tw]) Q E s := by
  refine wpAny_le (A' := arA 330 200 A.guards env []) ?_ a1.symm a2 a4.symm rfl a3
  revert X; k_fill; intro X
  refine wpAny_call ?_
  k_dflt (refine' enterT0 ?k1 ?k2 ?k3 ?k4 ?k5 ?kA ?kF ?kK ?k6 ?k7 ?k8 ?k9 ?kB ?_ ?c2 ?c3 ?c4 ?c5; (case kA => exact rfl); (case kF => exact a5); (case kK => exact a6); (case k1 => exact B); (case k2 => exact F); (case k3 => exact X); (case k4 => exact N); (case k5 => exact T); (case k6 => k_is); (case k7 => k_is); (case k8 => k_room); (case k9 => first | exact BindsTo.of_eq rfl | exact binds_K (by k_in) rfl (by k_is) rfl rfl rfl); (case c5 => decide); (case kB => exact locs rfl); (case c2 => exact rfl); (case c3 => exact rfl); (case c4 => exact rfl); k_whole; intro g' L' h' F' N' B' X' T' D'; (try dsimp only); (try k_fold))
  k_steps
  refine iter_strT (fun i g m' => m' (Str.ofString "book") = some (.ref d) ∧ (∃ t, m' (Str.ofString "place") = some (.str (ledF kvs (word.cps.toList.take i)) t)) ∧ KtsTurn ([env].filterMap (·.frame)) g' g ∧ Below (arA 330 200 A.guards env []) base [env] g ∧ (lay.heap_1 w.params).In g ∧ Top V loo mean mg mb g ∧ KtsDicts ([env].filterMap (·.frame)) g)
    rfl rfl rfl (by assumption) (by assumption) ⟨rfl, ⟨_, rfl⟩, KtsTurn.refl, B', X', T', D'⟩ ?_ ?_
  · intro i c t g m₁ h tk own hc pz1 Fg Ng
    refine Classical.byContradiction ?_; intro kG0
    obtain ⟨hb, ⟨t₁, hpl⟩, kT, Bg, Xg, Tg, Dg⟩ := pz1
    refine kG0 ?_
    clear kG0
    rw [map_put hb, map_put hpl] at Fg
    clear hb hpl
    have hlen : (ledF kvs (word.cps.toList.take i)).length ≤ 1000 := by
      have h1 := ledF_len kvs (word.cps.toList.take i)
      have h2 : (word.cps.toList.take i).length ≤ 20 := by rw [List.length_take, Array.length_toList]; omega
      omega
    have hone := one_len c
    have hsn : ledF kvs (word.cps.toList.take (i + 1)) = stepF kvs (ledF kvs (word.cps.toList.take i)) ⟨#[c]⟩ := by
      rw [take_snoc (by rw [Array.getElem?_toList]; exact hc), ledF_snoc]
    have md' : (d, o) ∈ own ++ news := List.mem_append.mpr (.inr md)
    k_steps
    all_goals exact EndT.mk (by assumption) (newsOf (by assumption) (by (k_extra "zz rel"))) ⟨rfl, ⟨_, by rw [hsn]; rfl⟩, KtsTurn.trans kT (by assumption), by assumption, by assumption, by assumption, by assumption⟩
  · intro h tk g m' Fg Ng pz2
    refine Classical.byContradiction ?_; intro kG0
    obtain ⟨hb, ⟨t₁, hpl⟩, kT, Bg, Xg, Tg, Dg⟩ := pz2
    refine kG0 ?_
    clear kG0
    rw [map_put hpl] at Fg
    k_steps
    rw [show word.cps.toList.take word.cps.size = word.cps.toList from by rw [← Array.length_toList, List.take_length]]
    exact hret _ _ _ (by assumption) (by assumption)
example : True := by w_top off; trivial
/-- a turn's end: what is kept of the loop's own things (own), and the ledger that goes on -/
inductive EndJ (h₀ : Heap) (L : Addr) (own : List (Addr × Obj)) (I : Addr) (J : (Str → Option Value) → List (Addr × Obj) → Prop) (s : Shared) : Flow → Shared → Prop
  | mk {h' : Heap} {tk' : Nat} {m' : Str → Option Value} {lall news' : List (Addr × Obj)} : Fr h₀ L h' m' → News h₀ L h' lall → (∀ p ∈ own, p ∈ lall) → (∀ p ∈ news', p ∈ lall) → (∀ p ∈ news', p.1 ≠ I) → J m' news' →
      EndJ h₀ L own I J s .next { s with heap := h', toks := tk' }
inductive LoopInv (h₀ : Heap) (L I : Addr) (n : Nat) (St : Nat → Heap → Prop) (J : Nat → (Str → Option Value) → List (Addr × Obj) → Prop) (s : Shared) : Nat → Shared → Prop
  | mk {h' : Heap} {tk : Nat} {m' : Str → Option Value} {news' : List (Addr × Obj)} {i : Nat} : St i h' → Fr h₀ L h' m' → News h₀ L h' news' → (∀ p ∈ news', p.1 ≠ I) → J i m' news' → i ≤ n → LoopInv h₀ L I n St J s (n + 1 - i) { s with heap := h', toks := tk }
section
variable {prog : Program} {w : World} {A : Around} {s : Shared} {env : Env} {x : Str} {px : Pos} {body : List Stmt} {h₀ : Heap} {m : Str → Option Value} {news : List (Addr × Obj)}
theorem for_J {R : Result → Shared → Prop} {I : Addr} {fp : List Addr} {n : Nat} {P : Nat → Value → Prop} {St : Nat → Heap → Prop} (W : Walks prog w A I fp [I] n P St)
    (hx : env.kindOf x = some .local) (hp : (env.scope.kind == .class || (env.scope.kind == .module && env.locals != env.globals)) = false)
    (hLf : env.locals ∉ fp) (hI0 : h₀.get? I = none) (hnI : ∀ p ∈ news, p.1 ≠ I) (hIs : ∀ i h, St i h → ∃ o, h.get? I = some o) (hst : St 0 s.heap) (F : Fr h₀ env.locals s.heap m) (N : News h₀ env.locals s.heap news)
    (J : Nat → (Str → Option Value) → List (Addr × Obj) → Prop) (h0 : J 0 m news)
    (step : ∀ i v m₁ news₁ h tk own, i < n → P i v → J i m₁ news₁ → (∀ p ∈ news₁, p.1 ≠ I) → (∀ p ∈ own, p.1 ∈ fp) → (∃ o, (I, o) ∈ own) → Fr h₀ env.locals h (fun y => if y = x then some v else m₁ y) → News h₀ env.locals h (own ++ news₁) →
      wpAny (model prog w) A (execs body env) (EndJ h₀ env.locals own I (J (i + 1)) s) (fun _ _ => False) { s with heap := h, toks := tk })
    (done : ∀ h tk m' news', Fr h₀ env.locals h m' → News h₀ env.locals h news' → J n m' news' → R (.ok .next) { s with heap := h, toks := tk }) :
    codeAny (model prog w) A (.forLoop (.Name x px) (.ref I) body [] env) R s := by
  have hIf : I ∈ fp := W.sub I (List.mem_singleton.mpr rfl)
  have hLI : env.locals ≠ I := fun e => hLf (e ▸ hIf)
  refine codeAny_forLoop (LoopInv h₀ env.locals I n St J s) ?_ (n + 1) (.mk (i := 0) hst F N hnI h0 (Nat.zero_le _))
  intro k s' pz1
  obtain ⟨hst', F', N', hnI', hJ, hi⟩ := pz1
  rename_i h' tk m' news' i
  have old : ∀ h₁ : Heap, (∀ b o, b ∉ [I] → h'.get? b = some o → h₁.get? b = some o) → Fr h₀ env.locals h₁ m' ∧ News h₀ env.locals h₁ news' := fun h₁ hk₁ =>
    ⟨⟨F'.ns.at' fun o e => hk₁ _ o (fun hm => hLI (List.mem_singleton.mp hm)) e, fun b o e => hk₁ b o (fun hm => by rw [List.mem_singleton.mp hm, hI0] at e; cases e) (F'.keep b o e), F'.above⟩,
      fun p hp => ⟨hk₁ _ _ (fun hm => hnI' p hp (List.mem_singleton.mp hm)) (N' p hp).1, (N' p hp).2⟩⟩
  by_cases hlt : i < n
  · refine W.item i _ _ _ hlt hst' fun v h₁ tk₁ hP hst₁ hk₁ => ?_
    refine Classical.byContradiction ?_; intro kG0
    obtain ⟨F₁, N₁⟩ := old h₁ hk₁
    refine kG0 ?_
    clear kG0
    refine wpAny_assign_Name (wpAny_storeName_local hx F₁.ns (fun h₂ hn₂ hs₂ => ?_) hp)
    have F₂ := F₁.set hn₂ hs₂
    have Nown : News h₀ env.locals h₂ (ownOf h₀ fp h₂) := news_ownOf hLf
    have hst₂ : St (i + 1) h₂ := W.frame _ _ _ hst₁ fun b hb o e => (hs₂.2 b fun q => hLf (q ▸ hb)).trans e
    refine wpAny_mono (step i v m' news' h₂ _ (ownOf h₀ fp h₂) hlt hP hJ hnI' ownOf_sub (by obtain ⟨o, ho⟩ := hIs _ _ hst₂; exact ⟨o, mem_ownOf hIf hI0 ho⟩) F₂ (Nown.append (N₁.set hs₂))) (fun f s₃ h₃ => ?_) fun _ _ e => e.elim
    refine Classical.byContradiction ?_; intro kG0
    obtain ⟨F₃, N₃, ho₃, hn₃, hI₃, hJ₃⟩ := h₃
    refine kG0 ?_
    clear kG0
    rename_i h₃' tk₃ m₃ l₃ news₃
    refine ⟨n + 1 - (i + 1), by omega, .mk ?_ F₃ (newsOf N₃ hn₃) hI₃ hJ₃ hlt⟩
    refine W.frame _ _ _ hst₂ fun b hb o e => ?_
    cases hn : h₀.get? b with
    | some o₀ =>
      have : o₀ = o := by have := F₂.keep b o₀ hn; rw [e] at this; exact (Option.some.inj this).symm
      exact this ▸ F₃.keep b o₀ hn
    | none => exact (N₃ _ (ho₃ _ (mem_ownOf hb hn e))).1
  · have hin : i = n := by omega
    subst hin
    refine W.done _ _ _ hst' fun h₁ tk₁ hk₁ => wpAny_execs_nil ?_
    refine Classical.byContradiction ?_; intro kG0
    obtain ⟨F₁, N₁⟩ := old h₁ hk₁
    refine kG0 ?_
    clear kG0
    exact done h₁ tk₁ m' news' F₁ N₁ hJ
end
/-- what a For goes on to, behind pyIter -/
noncomputable abbrev ForAt (prog : Program) (w : World) (A : Around) (target : PySem.Expr) (body : List Stmt) (env : Env) (Q : Flow → Shared → Prop) (E : Value → Shared → Prop) (it : Value) (s₂ : Shared) : Prop :=
  codeAny (model prog w) A (.forLoop target it body [] env) (fun r s' => match r with | .ok f => Q f s' | .error e => cameBackBy (model prog w) A env E e s') s₂
section
variable {prog : Program} {w : World} {A : Around} {E : Value → Shared → Prop} {s : Shared} {env : Env} {x : Str} {px : Pos} {body : List Stmt} {Q : Flow → Shared → Prop} {h₀ : Heap} {m : Str → Option Value} {news : List (Addr × Obj)}
theorem iter_rangeJ {r : Addr} {a₀ b₀ : Int} {t₀ u₀ v₀ : Tok} {n : Nat} (J : Nat → (Str → Option Value) → List (Addr × Obj) → Prop)
    (hh : A.handled = none) (hx : env.kindOf x = some .local) (hp : (env.scope.kind == .class || (env.scope.kind == .module && env.locals != env.globals)) = false)
    (hr : IsRange s.heap r a₀ b₀ 1 t₀ u₀ v₀) (hsmall : Builtin.Range.small a₀ b₀ 1 = true) (hn : Builtin.Range.rangeSize a₀ b₀ 1 = (n : Int)) (F : Fr h₀ env.locals s.heap m) (N : News h₀ env.locals s.heap news) (h0 : J 0 m news)
    (step : ∀ i t m₁ news₁ h tk own I, i < n → J i m₁ news₁ → (∀ p ∈ news₁, p.1 ≠ I) → (∀ p ∈ own, p.1 = I) → (∃ o, (I, o) ∈ own) → Fr h₀ env.locals h (fun y => if y = x then some (.int (a₀ + (i : Int)) t) else m₁ y) → News h₀ env.locals h (own ++ news₁) →
      (∀ p ∈ news, p.1 < I) → wpAny (model prog w) A (execs body env) (EndJ h₀ env.locals own I (J (i + 1)) s) (fun _ _ => False) { s with heap := h, toks := tk })
    (done : ∀ h tk m' news', Fr h₀ env.locals h m' → News h₀ env.locals h news' → J n m' news' → Q .next { s with heap := h, toks := tk }) :
    wpAny (model prog w) A (pyIter (.ref r)) (fun it s₂ => ForAt prog w A (.Name x px) body env Q E it s₂) E s := by
  refine wpAny_pyIter_range hr hsmall ?_
  have hLlt := F.ns.lt
  refine for_J (LCg.range_walks hh (I := s.heap.objs.size) a₀ n) hx hp ?_ (next_is_new F) (fun p hp => Nat.ne_of_lt (Heap.lt_size (N p hp).1)) (fun _ _ q => ⟨_, q⟩) (by show IsRangeIter _ _ _ _ _; rw [hn]; simpa using Heap.get?_push_size _ rfl) (F.push _) (fun p hp => ⟨Heap.get?_push_of_some _ (N p hp).1, (N p hp).2⟩) J h0 ?_ ?_
  · intro hm
    exact absurd hLlt (List.mem_singleton.mp hm ▸ Nat.lt_irrefl _)
  · intro i v m₁ news₁ h tk own hi hv hJ hnI ho hin F₁ N₁
    refine Classical.byContradiction ?_; intro kG0
    obtain ⟨t, rfl⟩ := hv
    refine kG0 ?_
    clear kG0
    refine wpAny_mono (step i t m₁ news₁ h tk own s.heap.objs.size hi hJ hnI (fun p hp => List.mem_singleton.mp (ho p hp)) hin F₁ N₁ (fun p hp => Heap.lt_size (N p hp).1)) (fun f s₃ h₃ => ?_) fun _ _ e => e
    obtain ⟨F₃, N₃, ho₃, hn₃, hI₃, hJ₃⟩ := h₃; exact .mk F₃ N₃ ho₃ hn₃ hI₃ hJ₃
  · exact done
end
example : True := by w_top off; trivial
section
variable {prog : Program} {w : World} {K : Type} [DecidableEq K] {knd : KeyKind prog w K} {A : Around} {E : Value → Shared → Prop} {s : Shared} {env : Env} {body : List Stmt} {Q : Flow → Shared → Prop} {h₀ : Heap} {m : Str → Option Value} {news : List (Addr × Obj)}
theorem iter_valuesJ {x : Str} {px : Pos} {vw d : Addr} {o : Obj} {kvs : List (K × Value)} (J : Nat → (Str → Option Value) → List (Addr × Obj) → Prop)
    (hh : A.handled = none) (hx : env.kindOf x = some .local) (hp : (env.scope.kind == .class || (env.scope.kind == .module && env.locals != env.globals)) = false)
    (hv : (vw, ({ cls := .type "dict_values", data := .fields #[.ref d] } : Obj)) ∈ news) (hm : (d, o) ∈ news) (hd : o.IsDictOf knd kvs) (F : Fr h₀ env.locals s.heap m) (N : News h₀ env.locals s.heap news) (h0 : J 0 m news)
    (step : ∀ i k v m₁ news₁ h tk own I, kvs[i]? = some (k, v) → J i m₁ news₁ → (∀ p ∈ news₁, p.1 ≠ I) → (∀ p ∈ own, p.1 = I ∨ p.1 = d) → (∃ o, (I, o) ∈ own) → Fr h₀ env.locals h (fun y => if y = x then some v else m₁ y) → News h₀ env.locals h (own ++ news₁) →
      (∀ p ∈ news, p.1 < I) → wpAny (model prog w) A (execs body env) (EndJ h₀ env.locals own I (J (i + 1)) s) (fun _ _ => False) { s with heap := h, toks := tk })
    (done : ∀ h tk m' news', Fr h₀ env.locals h m' → News h₀ env.locals h news' → J kvs.length m' news' → Q .next { s with heap := h, toks := tk }) :
    wpAny (model prog w) A (pyIter (.ref vw)) (fun it s₂ => ForAt prog w A (.Name x px) body env Q E it s₂) E s := by
  refine Classical.byContradiction ?_; intro kG0
  obtain ⟨ep, hat⟩ := (kda_dict N hm hd).dictAt
  refine kG0 ?_
  clear kG0
  have hdlt : d < s.heap.objs.size := hat.lt_size
  have hLlt := F.ns.lt
  refine wpAny_pyIter_values ⟨_, (N _ hv).1, rfl, rfl⟩ hat ?_
  refine for_J (Walks.dictValues hh s.heap.objs.size d (Nat.ne_of_lt hdlt) kvs ep) hx hp ?_ (next_is_new F) (fun p hp => Nat.ne_of_lt (Heap.lt_size (N p hp).1)) (fun _ _ q => by obtain ⟨⟨o, e, _⟩, _⟩ := q; exact ⟨o, e⟩) ⟨⟨_, Heap.get?_push_size _ rfl, rfl, rfl⟩, hat.push _⟩ (F.push _) (fun p hp => ⟨Heap.get?_push_of_some _ (N p hp).1, (N p hp).2⟩) J h0 ?_ ?_
  · intro hm'
    rcases List.mem_cons.mp hm' with e | hm'
    · exact absurd hLlt (e ▸ Nat.lt_irrefl _)
    · exact (N _ hm).2.1 (List.mem_singleton.mp hm').symm
  · intro i v m₁ news₁ h tk own hi hv hJ hnI ho hin F₁ N₁
    refine Classical.byContradiction ?_; intro kG0
    obtain ⟨k, hk⟩ := hv
    refine kG0 ?_
    clear kG0
    refine wpAny_mono (step i k v m₁ news₁ h tk own s.heap.objs.size hk hJ hnI (fun p hp => ?_) hin F₁ N₁ (fun p hp => Heap.lt_size (N p hp).1)) (fun f s₃ h₃ => ?_) fun _ _ e => e
    · rcases List.mem_cons.mp (ho p hp) with e | e
      · exact .inl e
      · exact .inr (List.mem_singleton.mp e)
    · obtain ⟨F₃, N₃, ho₃, hn₃, hI₃, hJ₃⟩ := h₃; exact .mk F₃ N₃ ho₃ hn₃ hI₃ hJ₃
  · exact done
inductive ItemsInv (knd : KeyKind prog w K) (h₀ : Heap) (L I d : Addr) (kvs : List (K × Value)) (ep : Nat) (J : Nat → (Str → Option Value) → List (Addr × Obj) → Prop) (s : Shared) : Nat → Shared → Prop
  | mk {h' : Heap} {tk : Nat} {m' : Str → Option Value} {news' : List (Addr × Obj)} {i : Nat} {ok ov : Value} : IsItemIter h' I d i kvs.length ep ok ov → h'.DictAt knd d kvs ep → Fr h₀ L h' m' → News h₀ L h' news' → (∀ p ∈ news', p.1 ≠ I) → J i m' news' → i ≤ kvs.length →
      ItemsInv knd h₀ L I d kvs ep J s (kvs.length + 1 - i) { s with heap := h', toks := tk }
theorem iter_itemsJ {xk xv : Str} {pk pv pt : Pos} {x1 : Nat} {vw d : Addr} {o : Obj} {kvs : List (K × Value)} (J : Nat → (Str → Option Value) → List (Addr × Obj) → Prop)
    (hh : A.handled = none) (hxk : env.kindOf xk = some .local) (hxv : env.kindOf xv = some .local) (hp : (env.scope.kind == .class || (env.scope.kind == .module && env.locals != env.globals)) = false)
    (hv : (vw, ({ cls := .type "dict_items", data := .fields #[.ref d] } : Obj)) ∈ news) (hm : (d, o) ∈ news) (hd : o.IsDictOf knd kvs) (F : Fr h₀ env.locals s.heap m) (N : News h₀ env.locals s.heap news) (h0 : J 0 m news)
    (step : ∀ i k v key m₁ news₁ h tk own I, kvs[i]? = some (k, v) → knd.is k key = true → J i m₁ news₁ → (∀ p ∈ news₁, p.1 ≠ I) → (∀ p ∈ own, p.1 = I ∨ p.1 = d) → (∃ o, (I, o) ∈ own) →
      Fr h₀ env.locals h (fun y => if y = xv then some v else if y = xk then some key else m₁ y) → News h₀ env.locals h (own ++ news₁) →
      (∀ p ∈ news, p.1 < I) → wpAny (model prog w) A (execs body env) (EndJ h₀ env.locals own I (J (i + 1)) s) (fun _ _ => False) { s with heap := h, toks := tk })
    (done : ∀ h tk m' news', Fr h₀ env.locals h m' → News h₀ env.locals h news' → J kvs.length m' news' → Q .next { s with heap := h, toks := tk }) :
    wpAny (model prog w) A (pyIter (.ref vw)) (fun it s₂ => ForAt prog w A (.Tuple [.Name xk pk, .Name xv pv] x1 pt) body env Q E it s₂) E s := by
  refine Classical.byContradiction ?_; intro kG0
  obtain ⟨ep, hat⟩ := (kda_dict N hm hd).dictAt
  refine kG0 ?_
  clear kG0
  have hdI : d ≠ s.heap.objs.size := Nat.ne_of_lt hat.lt_size
  have hIL : s.heap.objs.size ≠ env.locals := Nat.ne_of_gt F.ns.lt
  have hdL : d ≠ env.locals := (N _ hm).2.1
  have hI0 : h₀.get? s.heap.objs.size = none := next_is_new F
  have hLf : env.locals ∉ [s.heap.objs.size, d] := by
    intro hx
    rcases List.mem_cons.mp hx with e | hx
    · exact hIL e.symm
    · exact hdL (List.mem_singleton.mp hx).symm
  refine wpAny_pyIter_items (knd := knd) ⟨_, (N _ hv).1, rfl, rfl⟩ hat ?_
  refine codeAny_forLoop_any (ItemsInv knd h₀ env.locals s.heap.objs.size d kvs ep J s) ?_ (kvs.length + 1)
    (.mk (i := 0) (ok := .none) (ov := .none) (Heap.get?_push_size _ rfl) (hat.push _) (F.push _) (fun p hp => ⟨Heap.get?_push_of_some _ (N p hp).1, (N p hp).2⟩) (fun p hp => Nat.ne_of_lt (Heap.lt_size (N p hp).1)) h0 (Nat.zero_le _))
  intro n s' pz1
  obtain ⟨hit', hm', F', N', hnI', hJ, hi⟩ := pz1
  rename_i H tk m' news' i ok ov
  have oldNe : ∀ b o, h₀.get? b = some o → b ≠ s.heap.objs.size := fun b o e q => by rw [q, hI0] at e; cases e
  have up1 : ∀ h₁ : Heap, (∀ b o, b ≠ s.heap.objs.size → H.get? b = some o → h₁.get? b = some o) → Fr h₀ env.locals h₁ m' ∧ News h₀ env.locals h₁ news' := fun h₁ hk =>
    ⟨⟨F'.ns.at' fun o e => hk _ o (Ne.symm hIL) e, fun b o e => hk b o (oldNe b o e) (F'.keep b o e), F'.above⟩, fun p hp => ⟨hk _ _ (hnI' p hp) (N' p hp).1, (N' p hp).2⟩⟩
  cases hkv : kvs[i]? with
  | none =>
    have hsz : i = kvs.length := Nat.le_antisymm hi (by simpa using hkv)
    subst hsz
    refine wpAny_pyNext_items_end hh hit' hm' hkv fun h₁ he₁ => wpAny_execs_nil ?_
    refine Classical.byContradiction ?_; intro kG0
    obtain ⟨F₁, N₁⟩ := up1 h₁ fun b o hb e => he₁ b o hb e
    refine kG0 ?_
    clear kG0
    exact done h₁ tk m' news' F₁ N₁ hJ
  | some kv =>
    refine Classical.byContradiction ?_; intro kG0
    obtain ⟨k, v⟩ := kv
    refine kG0 ?_
    clear kG0
    have hlt : i < kvs.length := (List.getElem?_eq_some_iff.mp hkv).1
    have hIH : s.heap.objs.size < H.objs.size := Heap.lt_size hit'
    refine wpAny_pyNext_items_item hit' hm' hkv fun key h₁ hkey heo ht₁ hz₁ hk₁ => ?_
    refine wpAny_letOwnedTupleGo_items heo fun h₂ he₂ hs₂ => ?_
    have ht₂ : h₂.IsTuple H.objs.size #[key, v] := ⟨_, (hs₂.2 _ (Nat.ne_of_gt hIH)).trans ht₁, rfl, _, rfl⟩
    have hz₂ : h₂.objs.size = H.objs.size + 1 := hs₂.1.trans hz₁
    refine wpAny_assign_Tuple hh ht₂ rfl rfl fun h₃ hx₃ => ?_
    have o3 : ∀ b o, b < H.objs.size → h₂.get? b = some o → h₃.get? b = some o := fun b o hb e => hx₃ b o (by show b ≠ h₂.objs.size; rw [hz₂]; exact Nat.ne_of_lt (Nat.lt_succ_of_lt hb)) e
    have u3 : ∀ b o, b ≠ s.heap.objs.size → H.get? b = some o → h₃.get? b = some o := fun b o hb e => o3 b o (Heap.lt_size e) (hs₂.extBut b o hb (hk₁ b o hb e))
    refine Classical.byContradiction ?_; intro kG0
    obtain ⟨F₃, N₃⟩ := up1 h₃ u3
    refine kG0 ?_
    clear kG0
    show wpAny _ _ (do holding [v] (assign (.Name xk pk) env key); do holding [] (assign (.Name xv pv) env v); pure ()) _ _ _
    refine wpAny_bind (wpAny_holding (wpAny_assign_Name (wpAny_storeName_local hxk F₃.ns (fun h₄ hn₄ hs₄ => ?_) hp)))
    have F₄ := F₃.set hn₄ hs₄
    refine wpAny_bind (wpAny_holding (wpAny_assign_Name (wpAny_storeName_local hxv F₄.ns (fun h₅ hn₅ hs₅ => wpAny_pure ?_) hp)))
    have F₅ := F₄.set hn₅ hs₅
    have N₅ : News h₀ env.locals h₅ news' := (N₃.set hs₄).set hs₅
    have u5 : ∀ b o, b ≠ env.locals → b < H.objs.size → h₂.get? b = some o → h₅.get? b = some o := fun b o hbL hb e => hs₅.extBut b o hbL (hs₄.extBut b o hbL (o3 b o hb e))
    have hm₂ : h₂.DictAt knd d kvs ep := (hm'.at' fun o e => hk₁ d o hdI e).extBut hs₂.extBut hdI
    have hm₅ : h₅.DictAt knd d kvs ep := hm₂.at' fun o e => u5 d o hdL hm'.lt_size e
    have hit₅ := u5 s.heap.objs.size _ hIL hIH he₂
    have Nown : News h₀ env.locals h₅ (ownOf h₀ [s.heap.objs.size, d] h₅) := news_ownOf hLf
    refine wpAny_mono (step i k v key m' news' h₅ _ (ownOf h₀ [s.heap.objs.size, d] h₅) s.heap.objs.size hkv hkey hJ hnI' (fun p hp => ?_) ⟨_, mem_ownOf (List.mem_cons_self) hI0 hit₅⟩ F₅ (Nown.append N₅) (fun p hp => Heap.lt_size (N p hp).1)) (fun f s₃ h₃ => ?_) fun _ _ e => e.elim
    · rcases List.mem_cons.mp (ownOf_sub p hp) with e | e
      · exact .inl e
      · exact .inr (List.mem_singleton.mp e)
    refine Classical.byContradiction ?_; intro kG0
    obtain ⟨F₆, N₆, ho₆, hn₆, hI₆, hJ₆⟩ := h₃
    refine kG0 ?_
    clear kG0
    rename_i h₆ tk₆ m₆ l₆ news₆
    have keep₆ : ∀ b ∈ [s.heap.objs.size, d], ∀ o, h₅.get? b = some o → h₆.get? b = some o := fun b hb o e => by
      cases hn : h₀.get? b with
      | some o₀ =>
        have : o₀ = o := by have q := F₅.keep b o₀ hn; rw [e] at q; exact (Option.some.inj q).symm
        exact this ▸ F₆.keep b o₀ hn
      | none => exact (N₆ _ (ho₆ _ (mem_ownOf hb hn e))).1
    exact ⟨kvs.length + 1 - (i + 1), by omega, .mk (keep₆ _ (by simp) _ hit₅) (hm₅.at' fun o e => keep₆ d (by simp) o e) F₆ (newsOf N₆ hn₆) hI₆ hJ₆ hlt⟩
end
example : True := by w_top off; trivial
noncomputable def rmA (d : Addr) (l : List (Addr × Obj)) : List (Addr × Obj) := l.filter fun p => p.1 != d
theorem mem_rm {d : Addr} {l : List (Addr × Obj)} {p : Addr × Obj} : p ∈ rmA d l ↔ p ∈ l ∧ p.1 ≠ d := by
  unfold rmA; rw [List.mem_filter]; simp
theorem mem_put {d : Addr} {o' : Obj} {l : List (Addr × Obj)} {p : Addr × Obj} (h : p ∈ l) (hn : p.1 ≠ d) : p ∈ (d, o') :: rmA d l := .tail _ (mem_rm.mpr ⟨h, hn⟩)
inductive AllKV {α : Type} (V : Value → α → Prop) : List (Str × Value) → List (Str × α) → Prop
  | nil : AllKV V [] []
  | cons {k : Str} {v : Value} {a : α} {r : List (Str × Value)} {t : List (Str × α)} : V v a → AllKV V r t → AllKV V ((k, v) :: r) ((k, a) :: t)
noncomputable def lookK {α : Type} (c : List (Str × α)) (k : Str) : Option α := (c.find? fun p => p.1 = k).map (·.2)
noncomputable def putK {α : Type} (c : List (Str × α)) (k : Str) (a : α) : List (Str × α) := if c.any (fun p => p.1 = k) then c.map (fun p => if p.1 = k then (p.1, a) else p) else c ++ [(k, a)]
section
variable {α : Type} {V V' : Value → α → Prop} {kvs : List (Str × Value)} {c : List (Str × α)} {k : Str} {v : Value} {a : α}
theorem AllKV.mono (h : AllKV V kvs c) (f : ∀ v a, V v a → V' v a) : AllKV V' kvs c := by
  induction h with
  | nil => exact .nil
  | cons x _ ih => exact .cons (f _ _ x) ih
theorem AllKV.keys (h : AllKV V kvs c) : kvs.map (·.1) = c.map (·.1) := by
  induction h with
  | nil => rfl
  | cons _ _ ih => simp [ih]
theorem AllKV.length (h : AllKV V kvs c) : kvs.length = c.length := by
  have := congrArg List.length h.keys
  simpa using this
theorem AllKV.look (h : AllKV V kvs c) : (valueAt kvs k = none ∧ lookK c k = none) ∨ ∃ v a, valueAt kvs k = some v ∧ lookK c k = some a ∧ V v a := by
  induction h with
  | nil => exact .inl ⟨rfl, rfl⟩
  | @cons k' v' a' r t x _ ih =>
    unfold valueAt lookK
    by_cases e : k' = k
    · right; exact ⟨v', a', by simp [e], by simp [e], x⟩
    · simp only [List.find?_cons, e, decide_false]
      exact ih
theorem AllKV.get (h : AllKV V kvs c) : ∀ {i : Nat}, kvs[i]? = some (k, v) → ∃ a, c[i]? = some (k, a) ∧ V v a := by
  induction h with
  | nil => intro i e; simp at e
  | @cons k' v' a' r t x _ ih =>
    intro i e
    cases i with
    | zero => simp at e; obtain ⟨rfl, rfl⟩ := e; exact ⟨a', by simp, x⟩
    | succ i => simp at e; obtain ⟨b, hb, hv⟩ := ih e; exact ⟨b, by simpa using hb, hv⟩
theorem AllKV.snoc (h : AllKV V kvs c) (x : V v a) : AllKV V (kvs ++ [(k, v)]) (c ++ [(k, a)]) := by
  induction h with
  | nil => exact .cons x .nil
  | cons y _ ih => exact .cons y ih
theorem AllKV.any (h : AllKV V kvs c) : (kvs.any fun p => p.1 = k) = c.any fun p => p.1 = k := by
  induction h with
  | nil => rfl
  | cons _ _ ih => simp [ih]
theorem AllKV.put (h : AllKV V kvs c) (x : V v a) : AllKV V (stored kvs k v) (putK c k a) := by
  unfold stored putK
  rw [h.any]
  split
  · rename_i hc; clear hc
    induction h with
    | nil => exact .nil
    | @cons k' v' a' r t y _ ih =>
      simp only [List.map_cons]
      by_cases e : k' = k
      · simp only [e, if_true]; exact .cons x ih
      · simp only [e, if_false]; exact .cons y ih
  · exact h.snoc x
end
section
variable {w : World} {A : Around} {E : Value → Shared → Prop} {s : Shared} {h₀ : Heap} {L d : Addr} {m : Str → Option Value} {news : List (Addr × Obj)} {o : Obj} {kvs : List (Str × Value)} {k : Str} {t : Tok} {v : Value}
theorem my_set {Q : Unit → Shared → Prop} (F : Fr h₀ L s.heap m) (N : News h₀ L s.heap news) (hp : (d, o) ∈ news) (hd : o.IsDictOf (SK w) kvs) (hsz : kvs.length ≤ 1000)
    (h : ∀ h' o', Fr h₀ L h' m → News h₀ L h' ((d, o') :: rmA d news) → o'.IsDictOf (SK w) (stored kvs k v) → Q () { s with heap := h', toks := s.toks + 1 }) :
    wpAny (model PySem.Challenge.rw_zn0008_01.row.prog w) A (setItem (.ref d) (.str k t) v) Q E s := by
  have hm := N (d, o) hp
  refine wpAny_setItem_pairs (knd := SK w) (hsz := by rw [sizeLine_eq]; omega) (strKind_is _ _ _ _) (Heap.dictOf_iff.mpr ⟨o, hm.1, hd⟩) fun h' hmm hs => ?_
  refine Classical.byContradiction ?_; intro kG0
  obtain ⟨o', ho', hd'⟩ := Heap.dictOf_iff.mp hmm
  refine kG0 ?_
  clear kG0
  refine h h' o' (F.change hs hm.2.1 hm.2.2) (fun p hp' => ?_) hd'
  rcases List.mem_cons.mp hp' with rfl | hp'
  · exact ⟨ho', hm.2⟩
  · refine Classical.byContradiction ?_; intro kG0
    obtain ⟨h1, h2⟩ := mem_rm.mp hp'
    refine kG0 ?_
    clear kG0
    exact ⟨hs.extBut _ _ h2 (N p h1).1, (N p h1).2⟩
theorem my_get {Q : Value → Shared → Prop} (N : News h₀ L s.heap news) (hp : (d, o) ∈ news) (hd : o.IsDictOf (SK w) kvs) (hv : valueAt kvs k = some v) (h : Q v { s with toks := s.toks + 1 }) :
    wpAny (model PySem.Challenge.rw_zn0008_01.row.prog w) A (getItem (.ref d) (.str k t)) Q E s :=
  wpAny_getItem_of (strKind_is _ _ _ _) (kda_dict (knd := SK w) N hp hd).mapOf hv h
theorem my_sub {value slice : PySem.Expr} {Q : Value → Shared → Prop} (N : News h₀ L s.heap news) (hp : (d, o) ∈ news) (hd : o.IsDictOf (SK w) kvs) (hv : valueAt kvs k = some v) (h : Q v { s with toks := s.toks + 1 })
    (hs : subscripted slice false (.ref d) (.str k t) = operate [.ref d, (.str k t)] (getItem (.ref d) (.str k t))) (hg : ∀ r, letTemporaryGo value (.ref d) r = pure ()) :
    wpAny (model PySem.Challenge.rw_zn0008_01.row.prog w) A (subscriptTail value slice (.ref d) (.str k t)) Q E s :=
  kda_item (knd := SK w) N hp hd (strKind_is _ _ _ _) hv h hs hg
theorem my_items {Q : Value → Shared → Prop} (F : Fr h₀ L s.heap m) (N : News h₀ L s.heap news) (hp : (d, o) ∈ news) (hd : o.IsDictOf (SK w) kvs) (lo : (d == sysModules) = false)
    (h : ∀ x h', Fr h₀ L h' m → News h₀ L h' ((x, ({ cls := .type "dict_items", data := .fields #[.ref d] } : Obj)) :: news) → (∀ p ∈ news, p.1 < x) → Q (.ref x) { s with heap := h' }) :
    wpAny (model PySem.Challenge.rw_zn0008_01.row.prog w) A (call (.builtin "dict.items") [.ref d]) Q E s := by
  have hD := kda_dict (knd := SK w) N hp hd
  exact call_meetsIn PySem.F.slot_dict_items hD.typeIs PySem.F.entry_dict_items (PySem.F.args_dict_items_1 _) (meets_dict_items (SK w) d lo) ⟨⟨kvs, hD⟩, h _ _ (F.push _) (News.push F N _) fun q hq => Heap.lt_size (N q hq).1⟩
theorem my_values {Q : Value → Shared → Prop} (F : Fr h₀ L s.heap m) (N : News h₀ L s.heap news) (hp : (d, o) ∈ news) (hd : o.IsDictOf (SK w) kvs) (lo : (d == sysModules) = false)
    (h : ∀ x h', Fr h₀ L h' m → News h₀ L h' ((x, ({ cls := .type "dict_values", data := .fields #[.ref d] } : Obj)) :: news) → (∀ p ∈ news, p.1 < x) → Q (.ref x) { s with heap := h' }) :
    wpAny (model PySem.Challenge.rw_zn0008_01.row.prog w) A (call (.builtin "dict.values") [.ref d]) Q E s := by
  have hD := kda_dict (knd := SK w) N hp hd
  exact call_meetsIn PySem.F.slot_dict_values hD.typeIs PySem.F.entry_dict_values (PySem.F.args_dict_values_1 _) (meets_dict_values (SK w) d lo) ⟨⟨kvs, hD⟩, h _ _ (F.push _) (News.push F N _) fun q hq => Heap.lt_size (N q hq).1⟩
theorem my_items_m {pl : Sem Bool} {Q : Value × List Value → Shared → Prop} (N : News h₀ L s.heap news) (hp : (d, o) ∈ news) (hd : o.IsDictOf (SK w) kvs) (h : Q (.builtin "dict.items", [.ref d]) s) :
    wpAny (model PySem.Challenge.rw_zn0008_01.row.prog w) A (getMethod (.ref d) (Str.ofString "items") pl) Q E s := kdl_method (knd := SK w) PySem.F.slot_dict_items PySem.F.type_dict_items N hp hd h
theorem my_values_m {pl : Sem Bool} {Q : Value × List Value → Shared → Prop} (N : News h₀ L s.heap news) (hp : (d, o) ∈ news) (hd : o.IsDictOf (SK w) kvs) (h : Q (.builtin "dict.values", [.ref d]) s) :
    wpAny (model PySem.Challenge.rw_zn0008_01.row.prog w) A (getMethod (.ref d) (Str.ofString "values") pl) Q E s := kdl_method (knd := SK w) PySem.F.slot_dict_values PySem.F.type_dict_values N hp hd h
end
theorem EndJ.put {h₀ : Heap} {L I d : Addr} {own news₁ : List (Addr × Obj)} {J : (Str → Option Value) → List (Addr × Obj) → Prop} {s : Shared} {h' : Heap} {tk' : Nat} {m' : Str → Option Value} {o' : Obj}
    (F : Fr h₀ L h' m') (N : News h₀ L h' ((d, o') :: rmA d (own ++ news₁))) (hown : ∀ p ∈ own, p.1 ≠ d) (hdI : d ≠ I) (hnI : ∀ p ∈ news₁, p.1 ≠ I) (hJ : J m' ((d, o') :: rmA d news₁)) : EndJ h₀ L own I J s .next { s with heap := h', toks := tk' } :=
  .mk F N (fun p hp => mem_put (List.mem_append.mpr (.inl hp)) (hown p hp))
    (fun p hp => (List.mem_cons.mp hp).elim (fun e => e ▸ List.mem_cons_self) fun q => .tail _ (mem_rm.mpr ⟨List.mem_append.mpr (.inr (mem_rm.mp q).1), (mem_rm.mp q).2⟩))
    (fun p hp => (List.mem_cons.mp hp).elim (fun e => by rw [e]; exact hdI) fun q => hnI p (mem_rm.mp q).1) hJ
theorem EndJ.same {h₀ : Heap} {L I : Addr} {own news₁ : List (Addr × Obj)} {J : (Str → Option Value) → List (Addr × Obj) → Prop} {s : Shared} {h' : Heap} {tk' : Nat} {m' : Str → Option Value}
    (F : Fr h₀ L h' m') (N : News h₀ L h' (own ++ news₁)) (hnI : ∀ p ∈ news₁, p.1 ≠ I) (hJ : J m' news₁) : EndJ h₀ L own I J s .next { s with heap := h', toks := tk' } :=
  .mk F N (fun _ hp => List.mem_append.mpr (.inl hp)) (fun _ hp => List.mem_append.mpr (.inr hp)) hnI hJ
example : True := by
  k_with "setItem ref str" => (k_here; k_dflt (refine' my_set ?kF ?kN ?kp ?kd ?kz ?_; (case kF => k_asm); (case kN => k_asm); (case kp => first | assumption | (k_extra "zz mem")); (case kd => assumption); (case kz => first | assumption | omega | (simp; done)); k_whole); intro _ _ _ _ _; (try dsimp only); (try k_fold))
  trivial
example : True := by
  k_with "getItem ref str" => (k_here; k_dflt (refine' my_get ?kN ?kp ?kd ?kv ?_; (case kN => k_asm); (case kp => first | assumption | (k_extra "zz mem")); (case kd => assumption); (case kv => assumption); k_whole))
  trivial
example : True := by
  k_with "subscriptTail Name Name ref str" => (k_here; k_dflt (refine' my_sub ?kN ?kp ?kd ?kv ?_ ?hs ?hg; (case kN => k_asm); (case kp => first | assumption | (k_extra "zz mem")); (case kd => assumption); (case kv => assumption); (case hs => with_unfolding_all rfl); (case hg => intro _; with_unfolding_all rfl); k_whole))
  trivial
example : True := by
  k_with "call builtin:dict.items" => (k_here; k_dflt (refine' my_items ?kF ?kN ?kp ?kd ?kl ?_; (case kF => k_asm); (case kN => k_asm); (case kp => first | assumption | (k_extra "zz mem")); (case kd => assumption); (case kl => assumption); k_whole); intro _ _ _ _ _; (try dsimp only); (try k_fold))
  trivial
example : True := by
  k_with "call builtin:dict.values" => (k_here; k_dflt (refine' my_values ?kF ?kN ?kp ?kd ?kl ?_; (case kF => k_asm); (case kN => k_asm); (case kp => first | assumption | (k_extra "zz mem")); (case kd => assumption); (case kl => assumption); k_whole); intro _ _ _ _ _; (try dsimp only); (try k_fold))
  trivial
example : True := by
  k_with "getMethod ref" => (k_here; k_dflt (first | (refine' my_items_m ?kN ?kp ?kd ?_; (case kN => k_asm); (case kp => first | assumption | (k_extra "zz mem")); (case kd => assumption); k_whole) | (refine' my_values_m ?kN ?kp ?kd ?_; (case kN => k_asm); (case kp => first | assumption | (k_extra "zz mem")); (case kd => assumption); k_whole)))
  trivial
example : True := by
  k_with "exec For" => (k_here; refine wpAny_For ?_ ?_; rotate_left; (intro _; with_unfolding_all rfl))
  trivial
example : True := by
  k_with "exec For Name Call cons nil" => (k_here; refine wpAny_For ?_ ?_; rotate_left; (intro _; with_unfolding_all rfl))
  trivial
example : True := by
  k_with "exec For Name Name cons nil" => (k_here; refine wpAny_For ?_ ?_; rotate_left; (intro _; with_unfolding_all rfl))
  trivial
example : True := by
  k_with "exec For Name Subscript cons nil" => (k_here; refine wpAny_For ?_ ?_; rotate_left; (intro _; with_unfolding_all rfl))
  trivial
example : True := by
  k_with "exec For Name Attribute cons nil" => (k_here; refine wpAny_For ?_ ?_; rotate_left; (intro _; with_unfolding_all rfl))
  trivial
example : True := by w_top off; trivial
/-- the new table, entry by entry -/
noncomputable def copyC (l : List (Str × Int)) : List (Str × Int) := l.foldl (fun acc p => putK acc p.1 p.2) []
noncomputable def addOne (acc : List (Str × Int)) (p : Str × Int) : List (Str × Int) := putK acc p.1 (match lookK acc p.1 with | some x => x + p.2 | none => p.2)
noncomputable def addC (ct cu : List (Str × Int)) : List (Str × Int) := cu.foldl addOne (copyC ct)
theorem putK_len {α : Type} (c : List (Str × α)) (k : Str) (a : α) : (putK c k a).length ≤ c.length + 1 := by
  unfold putK; split <;> simp
theorem copyC_take {l : List (Str × Int)} {i : Nat} {k : Str} {a : Int} (h : l[i]? = some (k, a)) : copyC (l.take (i + 1)) = putK (copyC (l.take i)) k a := by
  unfold copyC; rw [List.take_add_one, h]; simp [List.foldl_append]
theorem copyC_len (l : List (Str × Int)) : (copyC l).length ≤ l.length := by
  have : ∀ (l acc : List (Str × Int)), (l.foldl (fun acc p => putK acc p.1 p.2) acc).length ≤ acc.length + l.length := by
    intro l
    induction l with
    | nil => intro acc; simp
    | cons p r ih => intro acc; rw [List.foldl_cons, List.length_cons]; have := ih (putK acc p.1 p.2); have := putK_len acc p.1 p.2; omega
  simpa [copyC] using this l []
theorem addOne_take {ct l : List (Str × Int)} {i : Nat} {p : Str × Int} (h : l[i]? = some p) : addC ct (l.take (i + 1)) = addOne (addC ct (l.take i)) p := by
  unfold addC; rw [List.take_add_one, h]; simp [List.foldl_append]
theorem addC_len (ct cu : List (Str × Int)) : (addC ct cu).length ≤ ct.length + cu.length := by
  have : ∀ (l acc : List (Str × Int)), (l.foldl addOne acc).length ≤ acc.length + l.length := by
    intro l
    induction l with
    | nil => intro acc; simp
    | cons p r ih => intro acc; rw [List.foldl_cons, List.length_cons]; have := ih (addOne acc p); have : (addOne acc p).length ≤ acc.length + 1 := putK_len _ _ _; omega
  have h1 := this cu (copyC ct)
  have h2 := copyC_len ct
  unfold addC; omega
noncomputable def CalIn (w : World) (news : List (Addr × Obj)) (v : Value) (c : List (Str × Int)) : Prop :=
  ∃ d o kvs, v = .ref d ∧ (d, o) ∈ news ∧ o.IsDictOf (SK w) kvs ∧ (d == sysModules) = false ∧ AllKV IsI kvs c
theorem CalIn.mono {w : World} {news news' : List (Addr × Obj)} {v : Value} {c : List (Str × Int)} (h : CalIn w news v c) (hs : ∀ p ∈ news, p ∈ news') : CalIn w news' v c := by
  obtain ⟨d, o, kvs, a1, a2, a3⟩ := h
  exact ⟨d, o, kvs, a1, hs _ a2, a3⟩
theorem callers_tell (w : World) (ct cu : List (Str × Int)) (h1 : ct.length ≤ 100) (h2 : cu.length ≤ 100) :
   Tell w 43 345 300 (fun news vs => ∃ v1 v2, vs = [v1, v2] ∧ CalIn w news v1 ct ∧ CalIn w news v2 cu) (fun tl r => CalIn w tl r (addC ct cu)) := by
  refine Tell.mk ?_
  intro mean mg mb A₀ gd env outer base h₀ L m news s vs Q E X
  revert X; k_fill; intro X
  intro hf hk B F N T R hret
  refine Classical.byContradiction ?_; intro kG0
  obtain ⟨v1, v2, rfl, ⟨t, ot, kt, rfl, mt, dt, lt, at1⟩, ⟨u, ou, ku, rfl, mu, du, lu, au1⟩⟩ := R
  refine kG0 ?_
  clear kG0
  refine wpAny_call ?_
  k_dflt (k_extra "zz start")
  k_steps
  rename_i d1 hA o1 lA lo1 hs1 _ _ _ hB _ _ x1 h1 F1 N1 l1
  have hdt : d1 ≠ t := fun e => absurd (lA _ mt) (e ▸ Nat.lt_irrefl _)
  have hdu : d1 ≠ u := fun e => absurd (lA _ mu) (e ▸ Nat.lt_irrefl _)
  refine' iter_itemsJ (knd := SK w) (fun i m' news' => m' (Str.ofString "new_callers") = some (.ref d1) ∧ m' (Str.ofString "source") = some (.ref u) ∧ (∀ p ∈ news, p ∈ news') ∧ ∃ o kvs, (d1, o) ∈ news' ∧ o.IsDictOf (SK w) kvs ∧ AllKV IsI kvs (copyC (ct.take i)))
    rfl rfl rfl rfl ?hv ?hm ?hd F1 N1 ?h0 ?step ?done
  case hv => (k_extra "zz mem")
  case hm => (k_extra "zz mem")
  case hd => assumption
  case h0 => exact ⟨rfl, rfl, fun p hp => .tail _ (.tail _ hp), o1, [], by (k_extra "zz mem"), hs1, .nil⟩
  case step =>
    intro i k v key m₁ news₁ h tk own I hkv hkey pz1 hnI hown pz2 Fg Ng hlt
    refine Classical.byContradiction ?_; intro kG0
    obtain ⟨hnc, hsrc, hsub, o₂, kvs₂, mo, dd, hal⟩ := pz1
    obtain ⟨oI, hoI⟩ := pz2
    obtain ⟨t₂, rfl⟩ := Value.isStrOf_shape hkey
    obtain ⟨a, hca, ti, rfl⟩ := at1.get hkv
    refine kG0 ?_
    clear kG0
    rw [map_put hnc, map_put hsrc] at Fg
    have hz : kvs₂.length ≤ 1000 := by
      have e1 := hal.length
      have e2 := copyC_len (ct.take i)
      have e3 : (ct.take i).length ≤ 100 := by rw [List.length_take]; omega
      omega
    have mo' : (d1, o₂) ∈ own ++ news₁ := List.mem_append.mpr (.inr mo)
    have hdI : d1 ≠ I := fun e => absurd (hlt _ (show (d1, o1) ∈ _ from by (k_extra "zz mem"))) (by rw [e]; exact Nat.lt_irrefl _)
    clear hnc hsrc
    k_steps
    exact EndJ.put (by assumption) (by assumption) (fun p hp => (hown p hp).elim (fun q e => hdI (e.symm.trans q)) fun q e => hdt (e.symm.trans q)) hdI hnI
      ⟨rfl, rfl, fun p hp => mem_put (hsub p hp) (fun e => absurd (lA p hp) (by rw [e]; exact Nat.lt_irrefl _)), _, _, List.mem_cons_self, by assumption, by rw [copyC_take hca]; exact hal.put ⟨_, rfl⟩⟩
  case done =>
    intro h2 tk2 m2 news2 Fg Ng pz3
    refine Classical.byContradiction ?_; intro kG0
    obtain ⟨hnc, hsrc, hsub, o₂, kvs₂, mo, dd, hal⟩ := pz3
    refine kG0 ?_
    clear kG0
    rw [map_put hnc, map_put hsrc] at Fg
    clear hnc hsrc
    have mu2 : (u, ou) ∈ news2 := hsub _ mu
    rw [show ct.take kt.length = ct from by rw [at1.length, List.take_length]] at hal
    k_steps
    rename_i x2 h3 F2 N2 l2
    refine' iter_itemsJ (knd := SK w) (fun i m' news' => m' (Str.ofString "new_callers") = some (.ref d1) ∧ (∀ p ∈ news, p ∈ news') ∧ ∃ o kvs, (d1, o) ∈ news' ∧ o.IsDictOf (SK w) kvs ∧ AllKV IsI kvs (addC ct (cu.take i)))
      rfl rfl rfl rfl ?hv ?hm ?hd F2 N2 ?h0 ?step ?done
    case hv => (k_extra "zz mem")
    case hm => (k_extra "zz mem")
    case hd => assumption
    case h0 => exact ⟨rfl, fun p hp => .tail _ (hsub p hp), o₂, kvs₂, by (k_extra "zz mem"), dd, hal⟩
    case step =>
      intro i k v key m₁ news₁ h tk own I hkv hkey pz4 hnI hown pz5 Fg Ng hlt
      refine Classical.byContradiction ?_; intro kG0
      obtain ⟨hnc, hsub', o₃, kvs₃, mo₃, dd₃, hal₃⟩ := pz4
      obtain ⟨oI, hoI⟩ := pz5
      obtain ⟨t₂, rfl⟩ := Value.isStrOf_shape hkey
      obtain ⟨a, hca, ti, rfl⟩ := au1.get hkv
      refine kG0 ?_
      clear kG0
      rw [map_put hnc] at Fg
      have hz : kvs₃.length ≤ 1000 := by
        have e1 := hal₃.length
        have e2 := addC_len ct (cu.take i)
        have e3 : (cu.take i).length ≤ 100 := by rw [List.length_take]; omega
        omega
      have mo' : (d1, o₃) ∈ own ++ news₁ := List.mem_append.mpr (.inr mo₃)
      have hdI : d1 ≠ I := fun e => absurd (hlt _ (show (d1, o₂) ∈ _ from by (k_extra "zz mem"))) (by rw [e]; exact Nat.lt_irrefl _)
      clear hnc
      have howd : ∀ p ∈ own, p.1 ≠ d1 := fun p hp => (hown p hp).elim (fun q e => hdI (e.symm.trans q)) fun q e => hdu (e.symm.trans q)
      have hsubd : ∀ o' : Obj, ∀ p ∈ news, p ∈ (d1, o') :: rmA d1 news₁ := fun o' p hp => mem_put (hsub' p hp) (fun e => absurd (lA p hp) (by rw [e]; exact Nat.lt_irrefl _))
      rcases hal₃.look (k := k) with ⟨hn, hl⟩ | ⟨v, x, hv, hl, tx, rfl⟩
      · k_steps
        exact EndJ.put (by assumption) (by assumption) howd hdI hnI ⟨rfl, hsubd _, _, _, List.mem_cons_self, by assumption, by rw [addOne_take hca]; unfold addOne; rw [hl]; exact hal₃.put ⟨_, rfl⟩⟩
      · k_steps
        exact EndJ.put (by assumption) (by assumption) howd hdI hnI ⟨rfl, hsubd _, _, _, List.mem_cons_self, by assumption, by rw [addOne_take hca]; unfold addOne; rw [hl]; exact hal₃.put ⟨_, rfl⟩⟩
    case done =>
      intro h2 tk2 m2 news3 Fg Ng pz6
      refine Classical.byContradiction ?_; intro kG0
      obtain ⟨hnc, hsub', o₃, kvs₃, mo₃, dd₃, hal₃⟩ := pz6
      refine kG0 ?_
      clear kG0
      rw [map_put hnc] at Fg
      rw [show cu.take ku.length = cu from by rw [au1.length, List.take_length]] at hal₃
      k_steps
      exact hret _ [(d1, o₃)] _ _ (by assumption) (newsOf (by assumption) (fun p hp => (List.mem_cons.mp hp).elim (fun e => e ▸ mo₃) (hsub' p))) (fun q hq p hp => by rw [List.mem_singleton.mp hp]; exact lA q hq) ⟨d1, o₃, kvs₃, rfl, List.mem_cons_self, dd₃, lo1, hal₃⟩
example : True := by
  k_with "call ref" => (k_here; (with_reducible show wpAny _ _ (call (Value.ref 43) _) _ _ _); k_dflt (refine' Tell.use (callers_tell _ _ _ ?h1 ?h2) ?a1 ?a2 ?a3 ?a4 ?a5 ?a6 ?kB ?kF ?kX ?kN ?kT ?kR ?_; (case a1 => exact rfl); (case a2 => exact Nat.le_of_ble_eq_true rfl); (case a3 => exact Nat.le_of_ble_eq_true rfl); (case a4 => exact rfl); (case a5 => exact rfl); (case a6 => exact rfl); (case kB => k_asm); (case kF => k_asm); (case kX => k_asm); (case kN => k_asm); (case kR => exact ⟨_, _, rfl, by first | assumption | (refine CalIn.mono (by assumption) ?_; intro _ _; (k_extra "zz mem")), by first | assumption | (refine CalIn.mono (by assumption) ?_; intro _ _; (k_extra "zz mem"))⟩); (case kT => k_asm); (case h1 => first | assumption | omega); (case h2 => first | assumption | omega); k_whole); intro _ _ _ _ _ _ _ _; (try dsimp only); (try k_fold))
  trivial
example : True := by w_top off; trivial
structure Stat where
  cc : Int
  nc : Int
  tt : Int
  ct : Int
  cal : List (Str × Int)
noncomputable def StatIn (w : World) (news : List (Addr × Obj)) (v : Value) (st : Stat) : Prop :=
  ∃ a n t1 t2 t3 t4 cv, v = .ref a ∧ (a, ({ cls := .type "tuple", data := .seq #[.int st.cc t1, .int st.nc t2, .int st.tt t3, .int st.ct t4, cv] n } : Obj)) ∈ news ∧ CalIn w news cv st.cal
theorem StatIn.mono {w : World} {news news' : List (Addr × Obj)} {v : Value} {st : Stat} (h : StatIn w news v st) (hs : ∀ p ∈ news, p ∈ news') : StatIn w news' v st := by
  obtain ⟨a, n, t1, t2, t3, t4, cv, e, hm, hc⟩ := h
  exact ⟨a, n, t1, t2, t3, t4, cv, e, hs _ hm, hc.mono hs⟩
noncomputable def addStat (t s : Stat) : Stat := ⟨s.cc + t.cc, s.nc + t.nc, s.tt + t.tt, s.ct + t.ct, addC t.cal s.cal⟩
theorem ordCons {D : Addr} {o : Obj} {tl news : List (Addr × Obj)} (h : ∀ q ∈ news, ∀ p ∈ tl, q.1 < p.1) (h1 : ∀ p ∈ tl ++ news, p.1 < D) : ∀ q ∈ news, ∀ p ∈ (D, o) :: tl, q.1 < p.1 := by
  intro q hq p hp
  rcases List.mem_cons.mp hp with rfl | hp
  · exact h1 q (List.mem_append.mpr (.inr hq))
  · exact h q hq p hp
theorem stats_tell (w : World) (st su : Stat) (h1 : st.cal.length ≤ 100) (h2 : su.cal.length ≤ 100) :
   Tell w 36 340 200 (fun news vs => ∃ v1 v2, vs = [v1, v2] ∧ StatIn w news v1 st ∧ StatIn w news v2 su) (fun tl r => StatIn w tl r (addStat st su)) := by
  refine Tell.mk ?_
  intro mean mg mb A₀ gd env outer base h₀ L m news s vs Q E X
  revert X; k_fill; intro X
  intro hf hk B F N T R hret
  refine Classical.byContradiction ?_; intro kG0
  obtain ⟨v1, v2, rfl, ⟨a, n, t1, t2, t3, t4, cv, rfl, ma, hca⟩, ⟨b, n', u1, u2, u3, u4, cw, rfl, mb', hcb⟩⟩ := R
  refine kG0 ?_
  clear kG0
  refine wpAny_call ?_
  k_dflt (k_extra "zz start")
  k_steps
  exact hret _ (_ :: _) _ _ (by assumption) (by assumption) (ordCons (by assumption) (by assumption)) ⟨_, _, _, _, _, _, _, rfl, List.mem_cons_self, CalIn.mono (by assumption) (fun p hp => .tail _ hp)⟩
theorem count_tell (w : World) (c : List (Str × Int)) :
   Tell w 50 345 300 (fun news vs => ∃ v, vs = [v] ∧ CalIn w news v c) (fun _ r => IsI r ((c.map (·.2)).sum)) := by
  refine Tell.mk ?_
  intro mean mg mb A₀ gd env outer base h₀ L m news s vs Q E X
  revert X; k_fill; intro X
  intro hf hk B F N T R hret
  refine Classical.byContradiction ?_; intro kG0
  obtain ⟨v, rfl, ⟨t, ot, kt, rfl, mt, dt, lt, at1⟩⟩ := R
  refine kG0 ?_
  clear kG0
  refine wpAny_call ?_
  k_dflt (k_extra "zz start")
  k_steps
  rename_i x1 h1 F1 N1 l1
  refine' iter_valuesJ (knd := SK w) (fun i m' news' => (∃ t, m' (Str.ofString "nc") = some (.int ((c.take i).map (·.2)).sum t)) ∧ (∀ p ∈ news, p ∈ news'))
    rfl rfl rfl ?hv ?hm ?hd F1 N1 ?h0 ?step ?done
  case hv => (k_extra "zz mem")
  case hm => (k_extra "zz mem")
  case hd => assumption
  case h0 => exact ⟨⟨_, rfl⟩, fun p hp => .tail _ hp⟩
  case step =>
    intro i k v m₁ news₁ h tk own I hkv pz1 hnI hown pz2 Fg Ng hlt
    refine Classical.byContradiction ?_; intro kG0
    obtain ⟨⟨tn, hnc⟩, hsub⟩ := pz1
    obtain ⟨oI, hoI⟩ := pz2
    obtain ⟨a, hca, ti, rfl⟩ := at1.get hkv
    refine kG0 ?_
    clear kG0
    rw [map_put hnc] at Fg
    k_steps
    exact EndJ.same (by assumption) (by assumption) hnI ⟨⟨_, by rw [show ((c.take (i + 1)).map (·.2)).sum = ((c.take i).map (·.2)).sum + a from by rw [List.take_add_one, hca]; simp]; rfl⟩, hsub⟩
  case done =>
    intro h2 tk2 m2 news3 Fg Ng pz3
    refine Classical.byContradiction ?_; intro kG0
    obtain ⟨⟨tn, hnc⟩, hsub⟩ := pz3
    refine kG0 ?_
    clear kG0
    rw [map_put hnc] at Fg
    rw [show c.take kt.length = c from by rw [at1.length, List.take_length]] at Fg
    k_steps
    exact hret _ [] _ _ (by assumption) (newsOf (by assumption) hsub) ord0 ⟨_, rfl⟩
theorem statIn_lit {w : World} {news : List (Addr × Obj)} {a : Addr} {n : Nat} {cc nc tt ct : Int} {t1 t2 t3 t4 : Tok} {cv : Value} {cal : List (Str × Int)}
    (hm : (a, ({ cls := .type "tuple", data := .seq #[.int cc t1, .int nc t2, .int tt t3, .int ct t4, cv] n } : Obj)) ∈ news) (hc : CalIn w news cv cal) : StatIn w news (.ref a) ⟨cc, nc, tt, ct, cal⟩ :=
  ⟨_, _, _, _, _, _, _, rfl, hm, hc⟩
theorem calIn_lit {w : World} {news : List (Addr × Obj)} {d : Addr} {o : Obj} {kvs : List (Str × Value)} {cal : List (Str × Int)}
    (hm : (d, o) ∈ news) (hd : o.IsDictOf (SK w) kvs) (lo : (d == sysModules) = false) (ha : AllKV IsI kvs cal) : CalIn w news (.ref d) cal := ⟨_, _, _, rfl, hm, hd, lo, ha⟩
local macro_rules | `(tactic| kqd_in) => `(tactic| first | assumption | (refine StatIn.mono (by assumption) ?_; intro _ _; (k_extra "zz mem")) | (refine' statIn_lit ?hm ?hc; (case hm => (k_extra "zz mem")); (case hc => (refine' calIn_lit ?m ?d ?l ?a; (case m => (k_extra "zz mem")); (case d => assumption); (case l => assumption); (case a => first | exact .nil | exact .cons ⟨_, rfl⟩ .nil)))))
example : True := by
  k_with "call ref" => (k_here; (with_reducible show wpAny _ _ (call (Value.ref 36) _) _ _ _); k_dflt (refine' Tell.use (stats_tell _ _ _ ?h1 ?h2) ?a1 ?a2 ?a3 ?a4 ?a5 ?a6 ?kB ?kF ?kX ?kN ?kT ?kR ?_; (case a1 => exact rfl); (case a2 => exact Nat.le_of_ble_eq_true rfl); (case a3 => exact Nat.le_of_ble_eq_true rfl); (case a4 => exact rfl); (case a5 => exact rfl); (case a6 => exact rfl); (case kB => k_asm); (case kF => k_asm); (case kX => k_asm); (case kN => k_asm); (case kR => exact ⟨_, _, rfl, by kqd_in, by kqd_in⟩); (case kT => k_asm); (case h1 => first | assumption | exact Nat.zero_le _ | exact Nat.le_of_ble_eq_true rfl); (case h2 => first | assumption | exact Nat.le_of_ble_eq_true rfl); k_whole); intro _ _ _ _ _ _ _ _; (try dsimp only); (try k_fold))
  trivial
example : True := by
  k_with "call ref" => (k_here; (with_reducible show wpAny _ _ (call (Value.ref 50) _) _ _ _); k_dflt (refine' Tell.use (count_tell _ _) ?a1 ?a2 ?a3 ?a4 ?a5 ?a6 ?kB ?kF ?kX ?kN ?kT ?kR ?_; (case a1 => exact rfl); (case a2 => exact Nat.le_of_ble_eq_true rfl); (case a3 => exact Nat.le_of_ble_eq_true rfl); (case a4 => exact rfl); (case a5 => exact rfl); (case a6 => exact rfl); (case kB => k_asm); (case kF => k_asm); (case kX => k_asm); (case kN => k_asm); (case kR => exact ⟨_, rfl, by first | assumption | (refine CalIn.mono (by assumption) ?_; intro _ _; (k_extra "zz mem"))⟩); (case kT => k_asm); k_whole); intro _ _ _ _ _ _ _ _; (try dsimp only); (try k_fold))
  trivial
example : True := by w_top off; trivial
section
variable {w : World} {A : Around} {E : Value → Shared → Prop} {s : Shared}
/-- a text's sign, its value in hand -/
theorem my_sitem {value slice : PySem.Expr} {x : Str} {t u : Tok} {i : Int} {c : Nat} {Q : Value → Shared → Prop} (hx : Txt.item x i = ⟨#[c]⟩ ∧ 0 ≤ i ∧ i < (x.length : Int) ∧ x.length ≤ 1000) (h : Q (.str ⟨#[c]⟩ s.toks) { s with toks := s.toks + 1 })
    (hs : subscripted slice false (.str x t) (.int i u) = operate [.str x t, .int i u] (getItem (.str x t) (.int i u)))
    (ht : ∀ r, letTemporaryGo value (.str x t) r = pure ()) :
    wpAny (model PySem.Challenge.rw_zn0008_01.row.prog w) A (subscriptTail value slice (.str x t) (.int i u)) Q E s :=
  item_str (fitsSsize_of (N := 9223372036854775808) (by omega) (by omega) (Int.le_refl _)) (by omega) (by omega) (fun _ => hx.1 ▸ h) hs ht
theorem sitem_at {x : Str} {i : Nat} {c : Nat} (hc : x.cps[i]? = some c) (hz : x.length ≤ 1000) : Txt.item x (0 + (i : Int)) = ⟨#[c]⟩ ∧ 0 ≤ 0 + (i : Int) ∧ 0 + (i : Int) < (x.length : Int) ∧ x.length ≤ 1000 := by
  rw [Int.zero_add]
  have hi := (Array.getElem?_eq_some_iff.mp hc).1
  have hi' : i < x.length := hi
  exact ⟨item_meets (by omega) (by simpa using hc), by omega, by omega, hz⟩
end
example : True := by
  k_with "subscriptTail Name Name str int" => (k_here; k_dflt (refine' my_sitem ?hx ?_ ?hs ?hg; (case hx => assumption); (case hs => with_unfolding_all rfl); (case hg => intro _; with_unfolding_all rfl); k_whole))
  trivial
example : True := by
  k_with "eval Dict" => (k_here; (with_reducible show wpAny _ _ (eval (PySem.Expr.Dict [some (PySem.Expr.Name _ _)] _ _) _) _ _ _); k_dflt (refine' kdn_eval (knd := PySem.strKind PySem.Challenge.rw_zn0008_01.row.prog _) ?F ?N ?b ?a ?l ?e ?n ?_; (case F => k_asm); (case N => first | k_asm | exact News.nil); (case b => exact Top.nolimit (by k_asm)); (case a => rfl); (case l => rfl); (case e => exact List.cons_ne_nil _ _); (case n => exact Nat.le_of_ble_eq_true rfl)); walk_at "zz lt")
  trivial
/-- the book that the code keeps: one turn (n signs in all; sign c at place k) -/
noncomputable def bookStep (n : Nat) (b : List (Str × Stat) × Str) (k c : Nat) : List (Str × Stat) × Str :=
  (putK b.1 (besideF b.2 ⟨#[c]⟩) (match lookK b.1 (besideF b.2 ⟨#[c]⟩) with
    | some st => addStat st ⟨0, 1, (k : Int) + 1, (n : Int) - k - 1, [(b.2, 1)]⟩
    | none => addStat ⟨0, 0, 0, 0, []⟩ ⟨1, 1, (k : Int) + 1, (n : Int) - k - 1, [(b.2, 1)]⟩), besideF b.2 ⟨#[c]⟩)
noncomputable def bookUp (n : Nat) (l : List Nat) : Nat → List (Str × Stat) × Str
  | 0 => ([(Str.ofString "", ⟨1, 1, 0, n, []⟩)], Str.ofString "")
  | k + 1 => bookStep n (bookUp n l k) k (l.getD k 0)
noncomputable def bookF (l : List Nat) : List (Str × Stat) := (bookUp l.length l l.length).1
theorem mem_putK {α : Type} {c : List (Str × α)} {k : Str} {a : α} {p : Str × α} (h : p ∈ putK c k a) : p ∈ c ∨ ∃ k', p = (k', a) := by
  unfold putK at h
  split at h
  · refine Classical.byContradiction ?_; intro kG0
    obtain ⟨q, hq, rfl⟩ := List.mem_map.mp h
    refine kG0 ?_
    clear kG0
    split
    · exact .inr ⟨_, rfl⟩
    · exact .inl hq
  · rcases List.mem_append.mp h with h | h
    · exact .inl h
    · exact .inr ⟨k, List.mem_singleton.mp h⟩
theorem lookK_mem {α : Type} {c : List (Str × α)} {k : Str} {a : α} (h : lookK c k = some a) : ∃ k', (k', a) ∈ c := by
  unfold lookK at h
  cases hf : c.find? (fun p => p.1 = k) with
  | none => rw [hf] at h; cases h
  | some q => rw [hf] at h; cases h; exact ⟨q.1, List.mem_of_find?_eq_some hf⟩
theorem bookUp_size (n : Nat) (l : List Nat) : ∀ i, (bookUp n l i).1.length ≤ i + 1 ∧ (bookUp n l i).2.length ≤ 3 * i ∧ ∀ p ∈ (bookUp n l i).1, p.2.cal.length ≤ i
  | 0 => ⟨Nat.le_refl _, Nat.le_of_eq (show (Str.ofString "").length = 0 from by decide +kernel), fun p hp => by rw [List.mem_singleton.mp hp]; exact Nat.le_refl _⟩
  | i + 1 => by
    refine Classical.byContradiction ?_; intro kG0
    obtain ⟨h1, h2, h3⟩ := bookUp_size n l i
    refine kG0 ?_
    clear kG0
    refine ⟨?_, ?_, ?_⟩
    · show (putK _ _ _).length ≤ _
      exact Nat.le_trans (putK_len _ _ _) (by omega)
    · show (besideF _ _).length ≤ _
      have := beside_len (bookUp n l i).2 ⟨#[l.getD i 0]⟩
      rw [one_len] at this
      omega
    · intro p hp
      rcases mem_putK hp with h | ⟨k, rfl⟩
      · exact Nat.le_succ_of_le (h3 p h)
      · cases hl : lookK (bookUp n l i).1 (besideF (bookUp n l i).2 ⟨#[l.getD i 0]⟩) with
        | none => exact Nat.le_trans (addC_len _ _) (by show 0 + 1 ≤ i + 1; omega)
        | some st =>
          refine Classical.byContradiction ?_; intro kG0
          obtain ⟨k', hk'⟩ := lookK_mem hl
          refine kG0 ?_
          clear kG0
          exact Nat.le_trans (addC_len _ _) (by have : st.cal.length ≤ i := h3 _ hk'; show _ + 1 ≤ i + 1; omega)
noncomputable def BookIn (w : World) (news : List (Addr × Obj)) (v : Value) (b : List (Str × Stat)) : Prop :=
  ∃ d o kvs, v = .ref d ∧ (d, o) ∈ news ∧ o.IsDictOf (SK w) kvs ∧ (d == sysModules) = false ∧ AllKV (StatIn w news) kvs b
theorem BookIn.mono {w : World} {news news' : List (Addr × Obj)} {v : Value} {b : List (Str × Stat)} (h : BookIn w news v b) (hs : ∀ p ∈ news, p ∈ news') : BookIn w news' v b := by
  obtain ⟨d, o, kvs, a1, a2, a3, a4, a5⟩ := h
  exact ⟨d, o, kvs, a1, hs _ a2, a3, a4, a5.mono fun _ _ x => x.mono hs⟩
theorem ofAllLt {d : Nat} : ∀ {l : List (Addr × Obj)}, AllLt d l → ∀ q ∈ l, q.1 < d
  | [], _, _, h => nomatch h
  | p :: l, h, q, hq => (List.mem_cons.mp hq).elim (fun e => e ▸ h.1) (ofAllLt h.2 q)
theorem book0 {w : World} {D d1 d2 : Addr} {o2 ob : Obj} {news : List (Addr × Obj)} {n : Nat} {len : Nat} {l : List Nat} {t1 t2 t3 t4 : Tok} (hdb : ob.IsDictOf (SK w) [(Str.ofString "", .ref D)]) (hs2 : o2.IsDictOf (SK w) []) (lo2 : (d2 == sysModules) = false)
    (a1 : d1 < d2) (a2 : ∀ q ∈ news, q.1 < d2) (a3 : d1 < D) (a4 : ∀ q ∈ news, q.1 < D) :
    ∃ o kvs tl, (d1, o) ∈ ((D, ({ cls := .type "tuple", data := .seq #[.int 1 t1, .int 1 t2, .int 0 t3, .int len t4, .ref d2] n } : Obj)) :: (d2, o2) :: (d1, ob) :: news) ∧ o.IsDictOf (SK w) kvs ∧
      (∀ p ∈ tl, p ∈ ((D, ({ cls := .type "tuple", data := .seq #[.int 1 t1, .int 1 t2, .int 0 t3, .int len t4, .ref d2] n } : Obj)) :: (d2, o2) :: (d1, ob) :: news) ∧ p.1 ≠ d1 ∧ ∀ q ∈ news, q.1 < p.1) ∧
      AllKV (StatIn w tl) kvs (bookUp len l 0).1 := by
  refine ⟨ob, _, [(D, ({ cls := .type "tuple", data := .seq #[.int 1 t1, .int 1 t2, .int 0 t3, .int len t4, .ref d2] n } : Obj)), (d2, o2)], by (k_extra "zz mem"), hdb, fun p hp => ?_, .cons (statIn_lit List.mem_cons_self (calIn_lit (.tail _ List.mem_cons_self) hs2 lo2 .nil)) .nil⟩
  rcases List.mem_cons.mp hp with rfl | hp
  · exact ⟨by (k_extra "zz mem"), Nat.ne_of_gt a3, a4⟩
  · rw [List.mem_singleton.mp hp]
    exact ⟨by (k_extra "zz mem"), Nat.ne_of_gt a1, a2⟩
noncomputable def BookJ (w : World) (word : Str) (t1 : Tok) (d1 : Addr) (news : List (Addr × Obj)) (i : Nat) (m' : Str → Option Value) (news' : List (Addr × Obj)) : Prop :=
  m' (Str.ofString "word") = some (.str word t1) ∧ m' (Str.ofString "book") = some (.ref d1) ∧ (∃ t, m' (Str.ofString "place") = some (.str (bookUp word.cps.size word.cps.toList i).2 t)) ∧ (∀ p ∈ news, p ∈ news') ∧
      ∃ o kvs tl, (d1, o) ∈ news' ∧ o.IsDictOf (SK w) kvs ∧ (∀ p ∈ tl, p ∈ news' ∧ p.1 ≠ d1 ∧ ∀ q ∈ news, q.1 < p.1) ∧ AllKV (StatIn w tl) kvs (bookUp word.cps.size word.cps.toList i).1
theorem book_turn {w : World} {word : Str} {t1 : Tok} {d1 I L : Addr} {news news₁ own tl lold tl₂ : List (Addr × Obj)} {i cc : Nat} {g h' : Heap} {m' : Str → Option Value} {s : Shared} {tk' : Nat} {o' o₂ oI : Obj} {kvs₂ : List (Str × Value)} {pp : Str} {r : Value} {st : Stat} {t : Tok}
    (F : Fr g L h' m') (N : News g L h' ((d1, o') :: rmA d1 (tl ++ lold))) (ord : ∀ q ∈ lold, ∀ p ∈ tl, q.1 < p.1) (out : StatIn w tl r st)
    (hd' : o'.IsDictOf (SK w) (stored kvs₂ (besideF pp ⟨#[cc]⟩) r)) (hsl : ∀ p ∈ own ++ news₁, p ∈ lold)
    (hown : ∀ p ∈ own, p.1 = I) (hoI : (I, oI) ∈ own) (hnI : ∀ p ∈ news₁, p.1 ≠ I) (hdI : d1 ≠ I) (mo : (d1, o₂) ∈ news₁)
    (l1 : ∀ p ∈ news, p.1 < d1) (hsub : ∀ p ∈ news, p ∈ news₁) (htl : ∀ p ∈ tl₂, p ∈ news₁ ∧ p.1 ≠ d1 ∧ ∀ q ∈ news, q.1 < p.1)
    (hal : AllKV (StatIn w tl₂) kvs₂ (bookUp word.cps.size word.cps.toList i).1) (hpp : (bookUp word.cps.size word.cps.toList i).2 = pp) (hcc : word.cps.toList.getD i 0 = cc)
    (hst : st = (match lookK (bookUp word.cps.size word.cps.toList i).1 (besideF pp ⟨#[cc]⟩) with
      | some st => addStat st ⟨0, 1, (i : Int) + 1, (word.cps.size : Int) - i - 1, [(pp, 1)]⟩
      | none => addStat ⟨0, 0, 0, 0, []⟩ ⟨1, 1, (i : Int) + 1, (word.cps.size : Int) - i - 1, [(pp, 1)]⟩))
    (m1 : m' (Str.ofString "word") = some (.str word t1)) (m2 : m' (Str.ofString "book") = some (.ref d1)) (m3 : m' (Str.ofString "place") = some (.str (besideF pp ⟨#[cc]⟩) t)) :
    EndJ g L own I (BookJ w word t1 d1 news (i + 1)) s .next { s with heap := h', toks := tk' } := by
  have hne : ∀ p ∈ tl, p.1 ≠ d1 := fun p hp => Nat.ne_of_gt (ord _ (hsl _ (List.mem_append.mpr (.inr mo))) p hp)
  refine .mk (news' := (d1, o') :: rmA d1 (tl ++ news₁)) F N (fun p hp => mem_put (List.mem_append.mpr (.inr (hsl p (List.mem_append.mpr (.inl hp))))) (by rw [hown p hp]; exact Ne.symm hdI)) (fun p hp => ?_) (fun p hp => ?_)
    ⟨m1, m2, ⟨t, ?_⟩, fun p hp => mem_put (List.mem_append.mpr (.inr (hsub p hp))) (Nat.ne_of_lt (l1 p hp)), o', _, tl ++ tl₂, List.mem_cons_self, hd', fun p hp => ?_, ?_⟩
  · rcases List.mem_cons.mp hp with rfl | hp
    · exact List.mem_cons_self
    · refine Classical.byContradiction ?_; intro kG0
      obtain ⟨h1, h2⟩ := mem_rm.mp hp
      refine kG0 ?_
      clear kG0
      rcases List.mem_append.mp h1 with h1 | h1
      · exact mem_put (List.mem_append.mpr (.inl h1)) h2
      · exact mem_put (List.mem_append.mpr (.inr (hsl p (List.mem_append.mpr (.inr h1))))) h2
  · rcases List.mem_cons.mp hp with rfl | hp
    · exact hdI
    · refine Classical.byContradiction ?_; intro kG0
      obtain ⟨h1, h2⟩ := mem_rm.mp hp
      refine kG0 ?_
      clear kG0
      rcases List.mem_append.mp h1 with h1 | h1
      · exact Nat.ne_of_gt (ord _ (hsl _ (List.mem_append.mpr (.inl hoI))) p h1)
      · exact hnI p h1
  · rw [m3, ← hpp, ← hcc]; rfl
  · rcases List.mem_append.mp hp with h1 | h1
    · exact ⟨mem_put (List.mem_append.mpr (.inl h1)) (hne p h1), hne p h1, fun q hq => ord q (hsl q (List.mem_append.mpr (.inr (hsub q hq)))) p h1⟩
    · refine Classical.byContradiction ?_; intro kG0
      obtain ⟨h2, h3, h4⟩ := htl p h1
      refine kG0 ?_
      clear kG0
      exact ⟨mem_put (List.mem_append.mpr (.inr h2)) h3, h3, h4⟩
  · have e : (bookUp word.cps.size word.cps.toList (i + 1)).1 = putK (bookUp word.cps.size word.cps.toList i).1 (besideF pp ⟨#[cc]⟩) st := by
      rw [hst, ← hpp, ← hcc]; rfl
    rw [e]
    exact (hal.mono fun _ _ x => x.mono fun p hp => List.mem_append.mpr (.inr hp)).put (out.mono fun p hp => List.mem_append.mpr (.inl hp))
theorem rangeSmall {n : Nat} (h : n ≤ 20) : Builtin.Range.small 0 (n : Int) 1 = true :=
  small_one (by decide) (by decide) (by omega) (by omega)
theorem rangeN (n : Nat) : Builtin.Range.rangeSize 0 (n : Int) 1 = (n : Int) := by
  rw [rangeSize_one]; split <;> omega
theorem book_tell (w : World) (word : Str) (hw : word.cps.size ≤ 20) :
   Tell w 170 330 150 (fun _ vs => ∃ t, vs = [.str word t]) (fun tl r => BookIn w tl r (bookF word.cps.toList)) := by
  refine Tell.mk ?_
  intro mean mg mb A₀ gd env outer base h₀ L m news s vs Q E X
  revert X; k_fill; intro X
  intro hf hk B F N T R hret
  refine Classical.byContradiction ?_; intro kG0
  obtain ⟨t1, rfl⟩ := R
  refine kG0 ?_
  clear kG0
  have hwl : word.length ≤ 20 := hw
  refine wpAny_call ?_
  k_dflt (k_extra "zz start")
  k_steps
  rename_i g1 L1 hA FG B1 X1 T1 kG tk0 d1 hB o0 l1 lo1 hd0 d2 hC o2 lo2 hs2 fs2 hi2 fi2 l2 D hD l3 hE ob hdb hF hG FF NN hH tkk ta ua va hR F1 N1 up1
  refine' iter_rangeJ (n := word.cps.size) (BookJ w word t1 d1 news) rfl rfl rfl hR ?hs ?hn F1 N1 ?h0 ?step ?done
  case hs => exact rangeSmall hwl
  case hn => exact rangeN _
  case h0 =>
    exact ⟨rfl, rfl, ⟨_, rfl⟩, fun p hp => by (k_extra "zz mem"), book0 hdb hs2 lo2 l2.1 (ofAllLt l2.2) l3.2.1 (ofAllLt l3.2.2)⟩
  case step =>
    intro i t m₁ news₁ h tk own I hi pz1 hnI hown pz2 Fg Ng hlt
    refine Classical.byContradiction ?_; intro kG0
    obtain ⟨hwd, hbk, ⟨tp, hpl⟩, hsub, o₂, kvs₂, tl₂, mo, dd, htl, hal⟩ := pz1
    obtain ⟨oI, hoI⟩ := pz2
    rw [map_put hwd, map_put hbk, map_put hpl] at Fg
    obtain ⟨hz1, hz2, hz3⟩ := bookUp_size word.cps.size word.cps.toList i
    have hi20 : i ≤ 20 := by omega
    have hic : word.cps[i]? = some word.cps[i] := Array.getElem?_eq_some_iff.mpr ⟨hi, rfl⟩
    have hit := sitem_at hic (by omega)
    have h1000 : (bookUp word.cps.size word.cps.toList i).2.length ≤ 1000 := by omega
    have hone := one_len word.cps[i]
    have hgd : word.cps.toList.getD i 0 = word.cps[i] := by rw [List.getD_eq_getElem?_getD, Array.getElem?_toList, hic]; rfl
    have hdI : d1 ≠ I := Nat.ne_of_lt (hlt _ (show (d1, ob) ∈ _ from by (k_extra "zz mem")))
    generalize hpp : (bookUp word.cps.size word.cps.toList i).2 = pp at *
    generalize hcc : word.cps[i] = cc at *
    refine kG0 ?_
    clear kG0
    clear hwd hbk hpl
    have mo' : (d1, o₂) ∈ own ++ news₁ := List.mem_append.mpr (.inr mo)
    have hkz : kvs₂.length ≤ 1000 := by have := hal.length; omega
    have htl' : ∀ p ∈ tl₂, p ∈ own ++ news₁ := fun p hp => List.mem_append.mpr (.inr (htl p hp).1)
    rcases hal.look (k := besideF pp ⟨#[cc]⟩) with ⟨hn, hl⟩ | ⟨v, st, hv, hl, hst⟩
    · k_steps
      exact book_turn (by assumption) (by assumption) (by assumption) (by assumption) (by assumption) (fun p hp => by (k_extra "zz mem")) hown hoI hnI hdI mo l1 hsub htl hal hpp hgd (by rw [hl, Int.zero_add]; rfl) rfl rfl rfl
    · have hst' := hst.mono htl'
      have hcal : st.cal.length ≤ 100 := by obtain ⟨k', hk'⟩ := lookK_mem hl; have : st.cal.length ≤ i := hz3 _ hk'; omega
      k_steps
      exact book_turn (by assumption) (by assumption) (by assumption) (by assumption) (by assumption) (fun p hp => by (k_extra "zz mem")) hown hoI hnI hdI mo l1 hsub htl hal hpp hgd (by rw [hl, Int.zero_add]; rfl) rfl rfl rfl
  case done =>
    intro h2 tk2 m2 news2 Fg Ng pz3
    refine Classical.byContradiction ?_; intro kG0
    obtain ⟨hwd, hbk, ⟨tp, hpl⟩, hsub, o₂, kvs₂, tl₂, mo, dd, htl, hal⟩ := pz3
    refine kG0 ?_
    clear kG0
    rw [map_put hbk] at Fg
    k_steps
    refine hret _ ((d1, o₂) :: tl₂) _ _ (by assumption) (newsOf (by assumption) (fun p hp => ?_)) (fun q hq p hp => ?_) ⟨d1, o₂, kvs₂, rfl, List.mem_cons_self, dd, lo1, hal.mono fun _ _ x => x.mono fun p hp => .tail _ hp⟩
    · rcases List.mem_append.mp hp with hp | hp
      · rcases List.mem_cons.mp hp with rfl | hp
        · exact mo
        · exact (htl p hp).1
      · exact hsub p hp
    · rcases List.mem_cons.mp hp with rfl | hp
      · exact l1 q hq
      · exact (htl p hp).2.2 q hq
example : True := by w_top off; trivial
noncomputable def BindsN (o : Obj) (x : Str) (v : Value) : Prop := ∀ (h : Heap) (a : Addr), h.get? a = some o → ∃ m, h.Ns a m ∧ m x = some v
theorem bindsN_of {h : Heap} {a : Addr} {o : Obj} {m : Str → Option Value} {x : Str} {v : Value} (ho : h.get? a = some o) (hn : h.Ns a m) (hx : m x = some v) : BindsN o x v := by
  refine Classical.byContradiction ?_; intro kG0
  obtain ⟨o', es, ep, e, hd, hk, hm⟩ := hn
  refine kG0 ?_
  clear kG0
  rw [ho] at e; cases e
  exact fun h' a' e' => ⟨m, ⟨o, es, ep, e', hd, hk, hm⟩, hx⟩
noncomputable def NsObj (o : Obj) : Prop := ∀ (h : Heap) (a : Addr), h.get? a = some o → ∃ m, h.Ns a m
theorem nsObj_of {h : Heap} {a : Addr} {o : Obj} {m : Str → Option Value} (ho : h.get? a = some o) (hn : h.Ns a m) : NsObj o := by
  refine Classical.byContradiction ?_; intro kG0
  obtain ⟨o', es, ep, e, hd, hk, hm⟩ := hn
  refine kG0 ?_
  clear kG0
  rw [ho] at e; cases e
  exact fun h' a' e' => ⟨m, ⟨o, es, ep, e', hd, hk, hm⟩⟩
structure Lead (x : Str) (v : Value) (I C D : Addr) (lead news₁ : List (Addr × Obj)) : Prop where
  cm : ∃ oC, (C, oC) ∈ lead ∧ BindsN oC x v
  dm : ∃ oD, (D, oD) ∈ lead
  im : ∃ oI, (I, oI) ∈ lead
  ap : ∀ p ∈ news₁, p.1 ≠ I ∧ p.1 ≠ C ∧ p.1 ≠ D
/-- an element's end: the loop's own things stand, the ledger goes on -/
inductive EndC (h₀ : Heap) (L : Addr) (m : Str → Option Value) (lead : List (Addr × Obj)) (I C D : Addr) (J : List (Addr × Obj) → Prop) (s : Shared) : Shared → Prop
  | mk {h' : Heap} {tk' : Nat} {lall news' : List (Addr × Obj)} : Fr h₀ L h' m → News h₀ L h' lall → (∀ p ∈ lead, p ∈ lall) → (∀ p ∈ news', p ∈ lall) → (∀ p ∈ news', p.1 ≠ I ∧ p.1 ≠ C ∧ p.1 ≠ D) → J news' →
      EndC h₀ L m lead I C D J s { s with heap := h', toks := tk' }
noncomputable abbrev CompAt (prog : Program) (w : World) (A : Around) (elt iter : PySem.Expr) (x : Str) (px : Pos) (ifs : List PySem.Expr) (scope : Scope) (cl : List (Str × Addr)) (pos : Pos) (env : Env) (use : Option (Value → Sem Unit)) (Q : Value → Shared → Prop) (E : Value → Shared → Prop) (it : Value) (s₂ : Shared) : Prop :=
  wpAny (model prog w) A (newList []) (fun acc s₃ => wpAny (model prog w) A (newFunctionEnv scope env.globals cl [] env.qual none .none (some env)) (fun cenv s₄ =>
    codeAny (model prog w) A (.compStart (.ListComp elt [⟨.Name x px, iter, ifs, 0⟩] scope pos) 0 it acc { cenv with scope := relabel scope env }) (compPost (model prog w) A E use Q acc cenv.locals) s₄) E s₃) E s₂
/-- the tests of a comprehension's clause -/
noncomputable abbrev testsOf (ifs : List PySem.Expr) (cenv : Env) : Sem Bool := forIn ifs true fun c r => if r = true then do let ok ← isTrue c cenv (eval c cenv); pure (ForInStep.yield ok) else pure (ForInStep.yield r)
/-- what is behind the loop: the list's address goes to its place, then the block's names go -/
inductive AfterC (C : Addr) (Q : Value → Shared → Prop) (v : Value) (s : Shared) : Prop
  | mk : (∃ m, s.heap.Ns C m) → (∀ h', Heap.SameBut C s.heap h' → Q v { s with heap := h' }) → AfterC C Q v s
section
variable {prog : Program} {w : World} {A : Around} {E : Value → Shared → Prop} {s : Shared} {env : Env} {x : Str} {px : Pos} {h₀ : Heap} {L : Addr} {m : Str → Option Value} {news : List (Addr × Obj)} {Q : Value → Shared → Prop}
  {elt iter : PySem.Expr} {ifs : List PySem.Expr} {scope : Scope} {cl : List (Str × Addr)} {pos : Pos} {use : Option (Value → Sem Unit)}
inductive CompInv (h₀ : Heap) (L C D I : Addr) (m : Str → Option Value) (n : Nat) (St : Nat → Heap → Prop) (J : Nat → List Value → List (Addr × Obj) → Prop) (s : Shared) : Nat → Shared → Prop
  | mk {h' : Heap} {tk : Nat} {ys : List Value} {news' : List (Addr × Obj)} {i : Nat} {mC : Str → Option Value} : St i h' → Fr h₀ L h' m → News h₀ L h' news' → (∀ p ∈ news', p.1 ≠ I ∧ p.1 ≠ C ∧ p.1 ≠ D) → h'.PlainList D ys.toArray → h'.Ns C mC → J i ys news' → i ≤ n → ys.length ≤ i →
      CompInv h₀ L C D I m n St J s (n + 1 - i) { s with heap := h', toks := tk }
theorem comp_J {n : Nat} {P : Nat → Value → Prop} {St : Nat → Heap → Prop} {I : Addr} {fp : List Addr} (W : Walks prog w A I fp [I] n P St) (hIs : ∀ i h, St i h → ∃ o, h.get? I = some o) (hn : n ≤ 1000)
    (hcell : ∀ y ∈ scope.names, y.2 ≠ .cell) (hkind : scope.kind = .function) (hx : scope.names.lookup x = some .local)
    (hLf : L ∉ fp) (hI0 : h₀.get? I = none) (hfp : ∀ b ∈ fp, b < s.heap.objs.size) (hnI : ∀ p ∈ news, p.1 ≠ I) (hst : St 0 s.heap) (F : Fr h₀ L s.heap m) (N : News h₀ L s.heap news)
    (J : Nat → List Value → List (Addr × Obj) → Prop) (h0 : J 0 [] news)
    (step : ∀ i v ys news₁ h tk C D lead, i < n → P i v → J i ys news₁ → Lead x v I C D lead news₁ → (∀ p ∈ news, p.1 < D ∧ p.1 < C) → Fr h₀ L h m → News h₀ L h (lead ++ news₁) →
      wpAny (model prog w) A (testsOf ifs (compEnvC scope cl C env)) (fun ok s₃ => if ok = true then wpAny (model prog w) A (eval elt (compEnvC scope cl C env)) (fun y s₄ => EndC h₀ L m lead I C D (J (i + 1) (ys ++ [y])) s s₄) (fun _ _ => False) s₃
        else EndC h₀ L m lead I C D (J (i + 1) ys) s s₃) (fun _ _ => False) { s with heap := h, toks := tk })
    (done : ∀ C D h tk ys news' oC k, Fr h₀ L h m → News h₀ L h ((D, ({ cls := .type "list", data := .seq ys.toArray k } : Obj)) :: (C, oC) :: news') → (∀ p ∈ news, p.1 < D ∧ p.1 < C) → D ≠ C → (∀ p ∈ news', p.1 ≠ D ∧ p.1 ≠ C) → J n ys news' → NsObj oC →
      match use with
      | none => ∀ h', Heap.SameBut C h h' → Q (.ref D) { s with heap := h', toks := tk }
      | some u => wpAny (model prog w) A (u (.ref D)) (fun _ s'' => AfterC C Q .none s'') E { s with heap := h, toks := tk }) :
    CompAt prog w A elt iter x px ifs scope cl pos env use Q E (.ref I) s := by
  refine wpAny_newObj_type (wpAny_newFunctionEnv hcell (by intro y hy; simp at hy) (fun h₁ hns₁ hsb₁ => ?_) hkind)
  dsimp only at hns₁ hsb₁ ⊢
  generalize hH2 : s.heap.push { cls := .type "list", dict := none, data := .seq ([] : List Value).toArray } = H2 at hns₁ hsb₁ ⊢
  have hC : H2.objs.size = s.heap.objs.size + 1 := by rw [← hH2, Heap.size_push]
  generalize hDd : s.heap.objs.size = D at *
  generalize hCd : H2.objs.size = C at *
  have hDCl : @LT.lt Nat _ D C := hC ▸ Nat.lt_succ_self D
  have hDC : @Ne Nat D C := Nat.ne_of_lt hDCl
  have hLD : @LT.lt Nat _ L D := Nat.lt_of_lt_of_eq F.ns.lt hDd
  have hLC : @LT.lt Nat _ L C := Nat.lt_trans hLD hDCl
  have hLa := @id (@LE.le Nat _ _ L) F.above
  have hD0 : h₀.get? D = none := Heap.get?_none_of_le (Nat.le_of_lt (Nat.lt_of_le_of_lt hLa hLD))
  have hC0 : h₀.get? C = none := Heap.get?_none_of_le (Nat.le_of_lt (Nat.lt_of_le_of_lt hLa hLC))
  have hDf : D ∉ fp := fun hm => absurd (hfp _ hm) (Nat.lt_irrefl _)
  have hCf : C ∉ fp := fun hm => Nat.lt_asymm (@id (@LT.lt Nat _ C D) (hfp _ hm)) hDCl
  have hIf : I ∈ fp := W.sub I (List.mem_singleton.mpr rfl)
  have hIlt : @LT.lt Nat _ I D := hfp _ hIf
  have hLI : L ≠ I := fun e => hLf (e ▸ hIf)
  have hlow : ∀ p ∈ news, @LT.lt Nat _ p.1 D := fun p hp => Nat.lt_of_lt_of_eq (Heap.lt_size (N p hp).1) hDd
  have old : ∀ b o, s.heap.get? b = some o → h₁.get? b = some o := fun b o e =>
    hsb₁.extBut b o (Nat.ne_of_lt (Nat.lt_trans (Nat.lt_of_lt_of_eq (Heap.lt_size e) hDd) hDCl)) (Heap.get?_push_of_some _ (hH2 ▸ Heap.get?_push_of_some _ e))
  have hacc : h₁.PlainList D #[] := ⟨_, hsb₁.extBut _ _ hDC (Heap.get?_push_of_some _ (hH2 ▸ hDd ▸ Heap.get?_push_size _ rfl))⟩
  have hst₁ : St 0 h₁ := W.frame _ _ _ hst fun b _ o e => old b o e
  have F₁ : Fr h₀ L h₁ m := ⟨F.ns.at' fun o e => old _ o e, fun b o e => old b o (F.keep b o e), F.above⟩
  have N₁ : News h₀ L h₁ news := fun p hp => ⟨old _ _ (N p hp).1, (N p hp).2⟩
  have loop : ∀ s₃ : Shared, s₃ = { s with heap := h₁, toks := s.toks + ([] : List (Str × Value)).length } →
      codeAny (model prog w) A (.compLoop (.ListComp elt [⟨.Name x px, iter, ifs, 0⟩] scope pos) 0 (.ref I) (.ref D) (compEnvC scope cl C env))
        (compPost (model prog w) A E use Q (.ref D) C) s₃ := by
    rintro s₃ rfl
    refine codeAny_compLoop_tests
      (CompInv h₀ L C D I m n St J s) ?_ (n + 1)
      (.mk (ys := []) (i := 0) hst₁ F₁ N₁ (fun p hp => ⟨hnI p hp, Nat.ne_of_lt (Nat.lt_trans (hlow p hp) hDCl), Nat.ne_of_lt (hlow p hp)⟩) hacc hns₁ h0 (Nat.zero_le _) (Nat.zero_le _))
    intro k s' pz1
    obtain ⟨hst', F', N', hap, hpl, hnC, hJ, hi, hyl⟩ := pz1
    rename_i h' tk ys news' i mC
    have old' : ∀ h₂ : Heap, (∀ b o, b ∉ [I] → h'.get? b = some o → h₂.get? b = some o) → Fr h₀ L h₂ m ∧ News h₀ L h₂ news' ∧ h₂.PlainList D ys.toArray ∧ h₂.Ns C mC := fun h₂ hk =>
      ⟨⟨F'.ns.at' fun o e => hk _ o (fun q => hLI (List.mem_singleton.mp q)) e, fun b o e => hk b o (fun q => by rw [List.mem_singleton.mp q, hI0] at e; cases e) (F'.keep b o e), F'.above⟩,
        fun p hp => ⟨hk _ _ (fun q => (hap p hp).1 (List.mem_singleton.mp q)) (N' p hp).1, (N' p hp).2⟩,
        by obtain ⟨kk, e⟩ := hpl; exact ⟨kk, hk _ _ (fun q => absurd (List.mem_singleton.mp q) (Nat.ne_of_gt hIlt)) e⟩,
        hnC.at' fun o e => hk _ o (fun q => absurd (List.mem_singleton.mp q) (Nat.ne_of_gt (Nat.lt_trans hIlt hDCl))) e⟩
    by_cases hlt : i < n
    · refine W.item i _ _ _ hlt hst' fun v h₂ tk₂ hPv hst₂ hk₂ => ?_
      refine Classical.byContradiction ?_; intro kG0
      obtain ⟨F₂, N₂, hpl₂, hnC₂⟩ := old' h₂ hk₂
      refine kG0 ?_
      clear kG0
      refine wpAny_assign_Name (wpAny_storeName_local (env := compEnvC scope cl C env) (lookup_relabel_local hx) hnC₂ (fun h₃ hn₃ hs₃ => ?_) (by simp [compEnvC, relabel, hkind]))
      change h₃.Ns C _ at hn₃
      change Heap.SameBut C h₂ h₃ at hs₃
      have up₃ : ∀ b o, b ≠ C → h₂.get? b = some o → h₃.get? b = some o := fun b o hb e => hs₃.extBut b o hb e
      have F₃ : Fr h₀ L h₃ m := ⟨F₂.ns.at' fun o e => up₃ _ o (Nat.ne_of_lt hLC) e, fun b o e => up₃ b o (fun q => by rw [q, hC0] at e; cases e) (F₂.keep b o e), F₂.above⟩
      have N₃ : News h₀ L h₃ news' := fun p hp => ⟨up₃ _ _ (hap p hp).2.1 (N₂ p hp).1, (N₂ p hp).2⟩
      have hst₃ : St (i + 1) h₃ := W.frame _ _ _ hst₂ fun b hb o e => up₃ b o (fun q => hCf (q ▸ hb)) e
      refine Classical.byContradiction ?_; intro kG0
      obtain ⟨kk, hpl₃⟩ := hpl₂
      have hpl₃ := up₃ _ _ hDC hpl₃
      generalize hoD : ({ cls := .type "list", data := .seq ys.toArray kk } : Obj) = oD at hpl₃
      obtain ⟨oC, es, ep, hoC, rest⟩ := id hn₃
      refine kG0 ?_
      clear kG0
      have hb : BindsN oC x v := bindsN_of hoC hn₃ (by simp)
      have NL : News h₀ L h₃ (((C, oC) :: (D, oD) :: ownOf h₀ fp h₃) ++ news') := fun p hp => by
        rcases List.mem_append.mp hp with hp | hp
        · rcases List.mem_cons.mp hp with rfl | hp
          · exact ⟨hoC, Nat.ne_of_gt hLC, hC0⟩
          · rcases List.mem_cons.mp hp with rfl | hp
            · exact ⟨hpl₃, Nat.ne_of_gt hLD, hD0⟩
            · exact news_ownOf hLf p hp
        · exact N₃ p hp
      have ld : Lead x v I C D ((C, oC) :: (D, oD) :: ownOf h₀ fp h₃) news' :=
        ⟨⟨oC, List.mem_cons_self, hb⟩, ⟨_, .tail _ List.mem_cons_self⟩, by obtain ⟨oI, e⟩ := hIs _ _ hst₃; exact ⟨oI, .tail _ (.tail _ (mem_ownOf hIf hI0 e))⟩, hap⟩
      have back : ∀ (ys' : List Value) (s₅ : Shared), EndC h₀ L m ((C, oC) :: (D, oD) :: ownOf h₀ fp h₃) I C D (J (i + 1) ys') s s₅ →
          ∃ h₅ tk₅ news₅, s₅ = { s with heap := h₅, toks := tk₅ } ∧ St (i + 1) h₅ ∧ Fr h₀ L h₅ m ∧ News h₀ L h₅ news₅ ∧ (∀ p ∈ news₅, p.1 ≠ I ∧ p.1 ≠ C ∧ p.1 ≠ D) ∧ h₅.PlainList D ys.toArray ∧ (∃ mC', h₅.Ns C mC') ∧ J (i + 1) ys' news₅ := by
        rintro ys' _ ⟨F₅, N₅, hl₅, hs₅, ha₅, hJ₅⟩
        rename_i h₅ tk₅ lall news₅
        refine ⟨h₅, tk₅, news₅, rfl, W.frame _ _ _ hst₃ fun b hbf o e => ?_, F₅, newsOf N₅ hs₅, ha₅, ⟨kk, hoD ▸ (N₅ _ (hl₅ _ (.tail _ List.mem_cons_self))).1⟩, ⟨_, hn₃.at' fun o e => ?_⟩, hJ₅⟩
        · cases hn0 : h₀.get? b with
          | some o₀ =>
            have : o₀ = o := by have q := F₃.keep b o₀ hn0; rw [e] at q; exact (Option.some.inj q).symm
            exact this ▸ F₅.keep b o₀ hn0
          | none => exact (N₅ _ (hl₅ _ (.tail _ (.tail _ (mem_ownOf hbf hn0 e))))).1
        · rw [hoC] at e; cases e
          exact (N₅ _ (hl₅ _ List.mem_cons_self)).1
      refine wpAny_mono (step i v ys news' h₃ _ C D _ hlt hPv hJ ld (fun p hp => ⟨hlow p hp, Nat.lt_trans (hlow p hp) hDCl⟩) F₃ NL) (fun ok s₄ h₄ => ?_) fun _ _ e => e.elim
      cases ok with
      | false =>
        simp only [Bool.false_eq_true, if_false] at h₄ ⊢
        refine Classical.byContradiction ?_; intro kG0
        obtain ⟨h₅, tk₅, news₅, rfl, st₅, F₅, N₅, ha₅, pl₅, ⟨mC', nC₅⟩, hJ₅⟩ := back ys s₄ h₄
        refine kG0 ?_
        clear kG0
        exact ⟨n + 1 - (i + 1), by omega, .mk st₅ F₅ N₅ ha₅ pl₅ nC₅ hJ₅ hlt (Nat.le_succ_of_le hyl)⟩
      | true =>
        simp only [if_true] at h₄ ⊢
        refine wpAny_mono h₄ (fun y s₅ hE₅ => ?_) fun _ _ e => e.elim
        refine Classical.byContradiction ?_; intro kG0
        obtain ⟨h₅, tk₅, news₅, rfl, st₅, F₅, N₅, ha₅, pl₅, ⟨mC', nC₅⟩, hJ₅⟩ := back _ s₅ hE₅
        refine kG0 ?_
        clear kG0
        refine wpAny_list_append_plain (hsz := by rw [sizeLine_eq, List.size_toArray]; omega) pl₅ fun h₆ pl₆ hs₆ => ?_
        have up₆ : ∀ b o, b ≠ D → h₅.get? b = some o → h₆.get? b = some o := fun b o hb e => hs₆.extBut b o hb e
        refine ⟨n + 1 - (i + 1), by omega, .mk (ys := ys ++ [y]) (W.frame _ _ _ st₅ fun b hb o e => up₆ b o (fun q => hDf (q ▸ hb)) e)
          ⟨F₅.ns.at' fun o e => up₆ _ o (Nat.ne_of_lt hLD) e, fun b o e => up₆ b o (fun q => by rw [q, hD0] at e; cases e) (F₅.keep b o e), F₅.above⟩
          (fun p hp => ⟨up₆ _ _ (ha₅ p hp).2.2 (N₅ p hp).1, (N₅ p hp).2⟩) ha₅ (by simpa using pl₆) (nC₅.at' fun o e => up₆ _ o (Ne.symm hDC) e) hJ₅ hlt (by rw [List.length_append]; exact Nat.succ_le_succ hyl)⟩
    · have hin : i = n := by omega
      subst hin
      refine W.done _ _ _ hst' fun h₂ tk₂ hk₂ => ?_
      refine Classical.byContradiction ?_; intro kG0
      obtain ⟨F₂, N₂, ⟨kk, hpl₂⟩, hnC₂⟩ := old' h₂ hk₂
      obtain ⟨oC, es, ep, hoC, rest⟩ := id hnC₂
      refine kG0 ?_
      clear kG0
      have ND : News h₀ L h₂ ((D, ({ cls := .type "list", data := .seq ys.toArray kk } : Obj)) :: (C, oC) :: news') := fun p hp => by
        rcases List.mem_cons.mp hp with rfl | hp
        · exact ⟨hpl₂, Nat.ne_of_gt hLD, hD0⟩
        · rcases List.mem_cons.mp hp with rfl | hp
          · exact ⟨hoC, Nat.ne_of_gt hLC, hC0⟩
          · exact N₂ p hp
      have dn := done C D h₂ tk₂ ys news' oC kk F₂ ND (fun p hp => ⟨hlow p hp, Nat.lt_trans (hlow p hp) hDCl⟩) hDC (fun p hp => ⟨(hap p hp).2.2, (hap p hp).2.1⟩) hJ (nsObj_of hoC hnC₂)
      cases use with
      | none => exact ⟨_, hnC₂, dn⟩
      | some u => exact wpAny_mono dn (fun _ s'' q => by obtain ⟨⟨mm, a⟩, b⟩ := q; exact ⟨mm, a, b⟩) fun _ _ e => e
  exact codeAny_compStart_list (loop _ rfl) (W.self 0 _ _ _ hst₁ (loop _ rfl))
end
example : True := by w_top off; trivial
/-- a thing that a loop goes over: its iterator stands, above the ledger -/
noncomputable def Src (prog : Program) (w : World) (A : Around) (h₀ : Heap) (L : Addr) (m : Str → Option Value) (news : List (Addr × Obj)) (s : Shared) (v : Value) (n : Nat) (P : Nat → Value → Prop) : Prop :=
  ∀ (Q E : Value → Shared → Prop), (∀ I fp St h, Walks prog w A I fp [I] n P St → (∀ i h, St i h → ∃ o, h.get? I = some o) → L ∉ fp → h₀.get? I = none → (∀ b ∈ fp, b < h.objs.size) → (∀ b ∈ fp, b = I ∨ v = .ref b) → (∀ p ∈ news, p.1 < I) → St 0 h →
    Fr h₀ L h m → News h₀ L h news → Q (.ref I) { s with heap := h }) → wpAny (model prog w) A (pyIter v) Q E s
section
variable {prog : Program} {w : World} {A : Around} {s : Shared} {h₀ : Heap} {L : Addr} {m : Str → Option Value} {news : List (Addr × Obj)}
theorem news_push {o : Obj} (N : News h₀ L s.heap news) : News h₀ L (s.heap.push o) news := fun p hp => ⟨Heap.get?_push_of_some _ (N p hp).1, (N p hp).2⟩
theorem src_list {l : Addr} {o : Obj} {vs : List Value} {k : Nat} (hh : A.handled = none) (F : Fr h₀ L s.heap m) (N : News h₀ L s.heap news) (hm : (l, o) ∈ news) (hc : o.cls = .type "list") (hd : o.data = .seq vs.toArray k) :
    Src prog w A h₀ L m news s (.ref l) vs.length (fun i v => vs[i]? = some v) := by
  intro Q E hQ
  have hl : s.heap.IsList l vs.toArray := ⟨_, (N _ hm).1, hc, _, hd⟩
  have hlt : l < s.heap.objs.size := Heap.lt_size (N _ hm).1
  have hLlt := F.ns.lt
  refine wpAny_pyIter_list hl ?_
  have e : vs.length = vs.toArray.size := by simp
  refine hQ s.heap.objs.size [s.heap.objs.size, l] _ _ (e ▸ (Walks.list hh s.heap.objs.size l (Nat.ne_of_lt hlt) vs.toArray).weaken fun i v h => by simpa using h) (fun _ _ q => by obtain ⟨⟨o, e, _⟩, _⟩ := q; exact ⟨o, e⟩) ?_ (next_is_new F) ?_ (fun b hb => (List.mem_cons.mp hb).elim .inl fun e => .inr (congrArg Value.ref (List.mem_singleton.mp e).symm)) (fun p hp => Heap.lt_size (N p hp).1) ⟨⟨_, Heap.get?_push_size _ rfl, rfl, rfl⟩, hl.push _⟩ (F.push _) (news_push N)
  · intro hm'
    rcases List.mem_cons.mp hm' with e | hm'
    · exact absurd hLlt (e ▸ Nat.lt_irrefl _)
    · exact (N _ hm).2.1 (List.mem_singleton.mp hm').symm
  · intro b hb
    rw [Heap.size_push]
    rcases List.mem_cons.mp hb with rfl | hb
    · exact Nat.lt_succ_self _
    · rw [List.mem_singleton.mp hb]; exact Nat.lt_succ_of_lt hlt
theorem src_tuple {l : Addr} {o : Obj} {vs : List Value} {k : Nat} (hh : A.handled = none) (F : Fr h₀ L s.heap m) (N : News h₀ L s.heap news) (hm : (l, o) ∈ news) (hc : o.cls = .type "tuple") (hd : o.data = .seq vs.toArray k) :
    Src prog w A h₀ L m news s (.ref l) vs.length (fun i v => vs[i]? = some v) := by
  intro Q E hQ
  have hl : s.heap.IsTuple l vs.toArray := ⟨_, (N _ hm).1, hc, _, hd⟩
  have hlt : l < s.heap.objs.size := Heap.lt_size (N _ hm).1
  have hLlt := F.ns.lt
  refine wpAny_pyIter_tuple hl ?_
  have e : vs.length = vs.toArray.size := by simp
  refine hQ s.heap.objs.size [s.heap.objs.size, l] _ _ (e ▸ (Walks.tuple hh s.heap.objs.size l (Nat.ne_of_lt hlt) vs.toArray).weaken fun i v h => by simpa using h) (fun _ _ q => by obtain ⟨⟨o, e, _⟩, _⟩ := q; exact ⟨o, e⟩) ?_ (next_is_new F) ?_ (fun b hb => (List.mem_cons.mp hb).elim .inl fun e => .inr (congrArg Value.ref (List.mem_singleton.mp e).symm)) (fun p hp => Heap.lt_size (N p hp).1) ⟨⟨_, Heap.get?_push_size _ rfl, rfl, rfl⟩, hl.push _⟩ (F.push _) (news_push N)
  · intro hm'
    rcases List.mem_cons.mp hm' with e | hm'
    · exact absurd hLlt (e ▸ Nat.lt_irrefl _)
    · exact (N _ hm).2.1 (List.mem_singleton.mp hm').symm
  · intro b hb
    rw [Heap.size_push]
    rcases List.mem_cons.mp hb with rfl | hb
    · exact Nat.lt_succ_self _
    · rw [List.mem_singleton.mp hb]; exact Nat.lt_succ_of_lt hlt
theorem src_range {r : Addr} {n : Nat} {t₀ u₀ v₀ : Tok} (hh : A.handled = none) (hn : n ≤ 1000) (F : Fr h₀ L s.heap m) (N : News h₀ L s.heap news) (hr : IsRange s.heap r 0 (n : Int) 1 t₀ u₀ v₀) :
    Src prog w A h₀ L m news s (.ref r) n (fun i v => ∃ t, v = .int (0 + (i : Int)) t) := by
  intro Q E hQ
  have hLlt := F.ns.lt
  have hs : Builtin.Range.rangeSize 0 (n : Int) 1 = (n : Int) := by rw [rangeSize_one]; split <;> omega
  refine wpAny_pyIter_range hr (small_one (by decide) (by decide) (by omega) (by omega)) ?_
  refine hQ s.heap.objs.size [s.heap.objs.size] _ _ (LCg.range_walks hh (I := s.heap.objs.size) 0 n) (fun _ _ q => ⟨_, q⟩) ?_ (next_is_new F) ?_ (fun b hb => .inl (List.mem_singleton.mp hb)) (fun p hp => Heap.lt_size (N p hp).1) (by show IsRangeIter _ _ _ _ _; rw [hs]; simpa using Heap.get?_push_size _ rfl) (F.push _) (news_push N)
  · intro hm'
    exact absurd hLlt (List.mem_singleton.mp hm' ▸ Nat.lt_irrefl _)
  · intro b hb
    rw [Heap.size_push, List.mem_singleton.mp hb]
    exact Nat.lt_succ_self _
theorem src_keys {d : Addr} {o : Obj} {kvs : List (Str × Value)} (hh : A.handled = none) (F : Fr h₀ L s.heap m) (N : News h₀ L s.heap news) (hm : (d, o) ∈ news) (hd : o.IsDictOf (PySem.strKind prog w) kvs) (lo : (d == sysModules) = false) :
    Src prog w A h₀ L m news s (.ref d) kvs.length (fun i v => ∃ k x t, kvs[i]? = some (k, x) ∧ v = .str k t) := by
  intro Q E hQ
  refine Classical.byContradiction ?_; intro kG0
  obtain ⟨ep, hat⟩ := (kda_dict N hm hd).dictAt
  refine kG0 ?_
  clear kG0
  have hlt : d < s.heap.objs.size := hat.lt_size
  have hLlt := F.ns.lt
  refine wpAny_pyIter_dict lo hat ?_
  refine hQ s.heap.objs.size [s.heap.objs.size, d] _ _ ((Walks.dictKeys hh s.heap.objs.size d (Nat.ne_of_lt hlt) kvs ep).weaken fun i v h => ?_) (fun _ _ q => by obtain ⟨⟨o, e, _⟩, _⟩ := q; exact ⟨o, e⟩) ?_ (next_is_new F) ?_ (fun b hb => (List.mem_cons.mp hb).elim .inl fun e => .inr (congrArg Value.ref (List.mem_singleton.mp e).symm)) (fun p hp => Heap.lt_size (N p hp).1) ⟨⟨_, Heap.get?_push_size _ rfl, rfl, rfl⟩, hat.push _⟩ (F.push _) (news_push N)
  · refine Classical.byContradiction ?_; intro kG0
    obtain ⟨k, x, e, hk⟩ := h
    obtain ⟨t, rfl⟩ := Value.isStrOf_shape hk
    refine kG0 ?_
    clear kG0
    exact ⟨k, x, t, e, rfl⟩
  · intro hm'
    rcases List.mem_cons.mp hm' with e | hm'
    · exact absurd hLlt (e ▸ Nat.lt_irrefl _)
    · exact (N _ hm).2.1 (List.mem_singleton.mp hm').symm
  · intro b hb
    rw [Heap.size_push]
    rcases List.mem_cons.mp hb with rfl | hb
    · exact Nat.lt_succ_self _
    · rw [List.mem_singleton.mp hb]; exact Nat.lt_succ_of_lt hlt
theorem src_str {x : Str} {t : Tok} (hh : A.handled = none) (F : Fr h₀ L s.heap m) (N : News h₀ L s.heap news) :
    Src prog w A h₀ L m news s (.str x t) x.cps.size (SignAt x) := by
  intro Q E hQ
  have hLlt := F.ns.lt
  cases ha : x.cps.all (· < 128)
  · refine wpAny_pyIter_wide ha (hQ s.heap.objs.size [s.heap.objs.size] _ _ (Walks.strWide hh _ x t) (fun _ _ q => by obtain ⟨o, e, _⟩ := q; exact ⟨o, e⟩) ?_ (next_is_new F) ?_ (fun b hb => .inl (List.mem_singleton.mp hb)) (fun p hp => Heap.lt_size (N p hp).1) ⟨_, Heap.get?_push_size _ rfl, rfl, rfl⟩ (F.push _) (news_push N))
    · intro hm'
      exact absurd hLlt (List.mem_singleton.mp hm' ▸ Nat.lt_irrefl _)
    · intro b hb
      rw [Heap.size_push, List.mem_singleton.mp hb]
      exact Nat.lt_succ_self _
  · refine wpAny_pyIter_ascii ha (hQ s.heap.objs.size [s.heap.objs.size] _ _ (Walks.strAscii hh _ x t) (fun _ _ q => by obtain ⟨o, e, _⟩ := q; exact ⟨o, e⟩) ?_ (next_is_new F) ?_ (fun b hb => .inl (List.mem_singleton.mp hb)) (fun p hp => Heap.lt_size (N p hp).1) ⟨_, Heap.get?_push_size _ rfl, rfl, rfl⟩ (F.push _) (news_push N))
    · intro hm'
      exact absurd hLlt (List.mem_singleton.mp hm' ▸ Nat.lt_irrefl _)
    · intro b hb
      rw [Heap.size_push, List.mem_singleton.mp hb]
      exact Nat.lt_succ_self _
end
section
variable {prog : Program} {w : World} {A : Around} {E : Value → Shared → Prop} {s : Shared} {env : Env} {x : Str} {px : Pos} {h₀ : Heap} {L : Addr} {m : Str → Option Value} {news : List (Addr × Obj)} {Q : Value → Shared → Prop}
  {elt iter : PySem.Expr} {ifs : List PySem.Expr} {scope : Scope} {cl : List (Str × Addr)} {pos : Pos} {use : Option (Value → Sem Unit)} {body : List Stmt}
/-- a for over a source -/
theorem for_src {Qf : Flow → Shared → Prop} {v₀ : Value} {n : Nat} {P : Nat → Value → Prop} (S : Src prog w A h₀ env.locals m news s v₀ n P)
    (hx : env.kindOf x = some .local) (hp : (env.scope.kind == .class || (env.scope.kind == .module && env.locals != env.globals)) = false)
    (J : Nat → (Str → Option Value) → List (Addr × Obj) → Prop) (h0 : J 0 m news)
    (step : ∀ i v m₁ news₁ h tk own I, i < n → P i v → J i m₁ news₁ → (∀ p ∈ news₁, p.1 ≠ I) → (∃ o, (I, o) ∈ own) → (∀ p ∈ own, p.1 = I ∨ v₀ = .ref p.1) → (∀ p ∈ news, p.1 < I) → Fr h₀ env.locals h (fun y => if y = x then some v else m₁ y) → News h₀ env.locals h (own ++ news₁) →
      wpAny (model prog w) A (execs body env) (EndJ h₀ env.locals own I (J (i + 1)) s) (fun _ _ => False) { s with heap := h, toks := tk })
    (done : ∀ h tk m' news', Fr h₀ env.locals h m' → News h₀ env.locals h news' → J n m' news' → Qf .next { s with heap := h, toks := tk }) :
    wpAny (model prog w) A (pyIter v₀) (fun it s₂ => ForAt prog w A (.Name x px) body env Qf E it s₂) E s := by
  refine S _ _ fun I fp St h W hIs hLf hI0 hfp hfv hlt hst F N => ?_
  refine for_J W hx hp hLf hI0 (fun p hp => Nat.ne_of_lt (hlt p hp)) hIs hst F N J h0 (fun i v m₁ news₁ h tk own hi hP hJ hnI ho hin F₁ N₁ => ?_) done
  refine wpAny_mono (step i v m₁ news₁ h tk own I hi hP hJ hnI hin (fun p hp => hfv _ (ho p hp)) hlt F₁ N₁) (fun f s₃ h₃ => ?_) fun _ _ e => e
  refine Classical.byContradiction ?_; intro kG0
  obtain ⟨F₃, N₃, ho₃, hn₃, hI₃, hJ₃⟩ := h₃
  refine kG0 ?_
  clear kG0
  exact .mk F₃ N₃ ho₃ hn₃ hI₃ hJ₃
noncomputable abbrev StepC (prog : Program) (w : World) (A : Around) (elt : PySem.Expr) (x : Str) (ifs : List PySem.Expr) (scope : Scope) (cl : List (Str × Addr)) (env : Env) (h₀ : Heap) (L : Addr) (m : Str → Option Value) (news : List (Addr × Obj)) (s : Shared) (n : Nat) (P : Nat → Value → Prop) (J : Nat → List Value → List (Addr × Obj) → Prop) : Prop :=
  ∀ i v ys news₁ h tk C D I lead, i < n → P i v → J i ys news₁ → Lead x v I C D lead news₁ → (∀ p ∈ news, p.1 < D ∧ p.1 < C ∧ p.1 < I) → Fr h₀ L h m → News h₀ L h (lead ++ news₁) →
      wpAny (model prog w) A (testsOf ifs (compEnvC scope cl C env)) (fun ok s₃ => if ok = true then wpAny (model prog w) A (eval elt (compEnvC scope cl C env)) (fun y s₄ => EndC h₀ L m lead I C D (J (i + 1) (ys ++ [y])) s s₄) (fun _ _ => False) s₃
        else EndC h₀ L m lead I C D (J (i + 1) ys) s s₃) (fun _ _ => False) { s with heap := h, toks := tk }
theorem comp_evalJ {v : Value} {n : Nat} {P : Nat → Value → Prop} (S : Src prog w A h₀ L m news s v n P) (hn : n ≤ 1000)
    (hcell : ∀ y ∈ scope.names, y.2 ≠ .cell) (hkind : scope.kind = .function) (hx : scope.names.lookup x = some .local)
    (J : Nat → List Value → List (Addr × Obj) → Prop) (h0 : J 0 [] news) (step : StepC prog w A elt x ifs scope cl env h₀ L m news s n P J)
    (done : ∀ D h tk ys news' k, Fr h₀ L h m → News h₀ L h ((D, ({ cls := .type "list", data := .seq ys.toArray k } : Obj)) :: news') → (∀ p ∈ news, p.1 < D) → (∀ p ∈ news', p.1 ≠ D) → J n ys news' → Q (.ref D) { s with heap := h, toks := tk }) :
    wpAny (model prog w) A (pyIter v) (fun it s₂ => CompAt prog w A elt iter x px ifs scope cl pos env none Q E it s₂) E s := by
  refine S _ _ fun I fp St h W hIs hLf hI0 hfp hfv hlt hst F N => ?_
  refine comp_J W hIs hn hcell hkind hx hLf hI0 hfp (fun p hp => Nat.ne_of_lt (hlt p hp)) hst F N J h0 (fun i v ys news₁ h tk C D lead hi hP hJ ld ap F₁ N₁ => ?_) (fun C D h tk ys news' oC k F₁ N₁ hDC hne hap hJ hns => ?_)
  · refine wpAny_mono (step i v ys news₁ h tk C D I lead hi hP hJ ld (fun p hp => ⟨(ap p hp).1, (ap p hp).2, hlt p hp⟩) F₁ N₁) (fun ok s₃ h₃ => ?_) fun _ _ e => e
    cases ok with
    | true =>
      simp only [if_true] at h₃ ⊢
      refine wpAny_mono h₃ (fun y s₄ h₄ => ?_) fun _ _ e => e
      refine Classical.byContradiction ?_; intro kG0
      obtain ⟨a1, a2, a3, a4, a5, a6⟩ := h₄
      refine kG0 ?_
      clear kG0
      exact .mk a1 a2 a3 a4 a5 a6
    | false =>
      simp only [Bool.false_eq_true, if_false] at h₃ ⊢
      refine Classical.byContradiction ?_; intro kG0
      obtain ⟨a1, a2, a3, a4, a5, a6⟩ := h₃
      refine kG0 ?_
      clear kG0
      exact .mk a1 a2 a3 a4 a5 a6
  · intro h' hs
    have hCm := N₁ (C, oC) (.tail _ List.mem_cons_self)
    have up : ∀ b o, b ≠ C → h.get? b = some o → h'.get? b = some o := fun b o hb e => hs.extBut b o hb e
    refine done D h' tk ys news' k ⟨F₁.ns.at' fun o e => up _ o (Ne.symm hCm.2.1) e, fun b o e => up b o (fun q => by rw [q, hCm.2.2] at e; cases e) (F₁.keep b o e), F₁.above⟩ (fun p hp => ?_) (fun p hp => (hDC p hp).1) (fun p hp => (hap p hp).1) hJ
    rcases List.mem_cons.mp hp with rfl | hp
    · exact ⟨up _ _ hne (N₁ _ List.mem_cons_self).1, (N₁ _ List.mem_cons_self).2⟩
    · have := N₁ p (.tail _ (.tail _ hp))
      exact ⟨up _ _ (hap p hp).2 this.1, this.2⟩
theorem comp_localJ {v : Value} {n : Nat} {P : Nat → Value → Prop} {y : Str} {py : Pos} (S : Src prog w A h₀ env.locals m news s v n P) (hn : n ≤ 1000)
    (hcell : ∀ y ∈ scope.names, y.2 ≠ .cell) (hkind : scope.kind = .function) (hx : scope.names.lookup x = some .local)
    (hy : env.kindOf y = some .local) (hp : (env.scope.kind == .class || (env.scope.kind == .module && env.locals != env.globals)) = false)
    (J : Nat → List Value → List (Addr × Obj) → Prop) (h0 : J 0 [] news) (step : StepC prog w A elt x ifs scope cl env h₀ env.locals m news s n P J)
    (done : ∀ D h tk ys news' k, Fr h₀ env.locals h (fun z => if z = y then some (.ref D) else m z) → News h₀ env.locals h ((D, ({ cls := .type "list", data := .seq ys.toArray k } : Obj)) :: news') → (∀ p ∈ news, p.1 < D) → (∀ p ∈ news', p.1 ≠ D) → J n ys news' →
      Q .none { s with heap := h, toks := tk }) :
    wpAny (model prog w) A (pyIter v) (fun it s₂ => CompAt prog w A elt iter x px ifs scope cl pos env (some (assign (.Name y py) env)) Q E it s₂) E s := by
  refine S _ _ fun I fp St h W hIs hLf hI0 hfp hfv hlt hst F N => ?_
  refine comp_J W hIs hn hcell hkind hx hLf hI0 hfp (fun p hp => Nat.ne_of_lt (hlt p hp)) hst F N J h0 (fun i v ys news₁ h tk C D lead hi hP hJ ld ap F₁ N₁ => ?_) (fun C D h tk ys news' oC k F₁ N₁ hDC hne hap hJ hns => ?_)
  · refine wpAny_mono (step i v ys news₁ h tk C D I lead hi hP hJ ld (fun p hp => ⟨(ap p hp).1, (ap p hp).2, hlt p hp⟩) F₁ N₁) (fun ok s₃ h₃ => ?_) fun _ _ e => e
    cases ok with
    | true =>
      simp only [if_true] at h₃ ⊢
      refine wpAny_mono h₃ (fun y s₄ h₄ => ?_) fun _ _ e => e
      refine Classical.byContradiction ?_; intro kG0
      obtain ⟨a1, a2, a3, a4, a5, a6⟩ := h₄
      refine kG0 ?_
      clear kG0
      exact .mk a1 a2 a3 a4 a5 a6
    | false =>
      simp only [Bool.false_eq_true, if_false] at h₃ ⊢
      refine Classical.byContradiction ?_; intro kG0
      obtain ⟨a1, a2, a3, a4, a5, a6⟩ := h₃
      refine kG0 ?_
      clear kG0
      exact .mk a1 a2 a3 a4 a5 a6
  · refine wpAny_assign_Name (wpAny_storeName_local hy F₁.ns (fun h₂ hn₂ hs₂ => ?_) hp)
    have F₂ := F₁.set hn₂ hs₂
    have N₂ := N₁.set hs₂
    have hCm := N₂ (C, oC) (.tail _ List.mem_cons_self)
    refine ⟨hns _ _ hCm.1, fun h' hs => ?_⟩
    have up : ∀ b o, b ≠ C → h₂.get? b = some o → h'.get? b = some o := fun b o hb e => hs.extBut b o hb e
    refine done D h' _ ys news' k ⟨F₂.ns.at' fun o e => up _ o (Ne.symm hCm.2.1) e, fun b o e => up b o (fun q => by rw [q, hCm.2.2] at e; cases e) (F₂.keep b o e), F₂.above⟩ (fun p hp => ?_) (fun p hp => (hDC p hp).1) (fun p hp => (hap p hp).1) hJ
    rcases List.mem_cons.mp hp with rfl | hp
    · exact ⟨up _ _ hne (N₂ _ List.mem_cons_self).1, (N₂ _ List.mem_cons_self).2⟩
    · have := N₂ p (.tail _ (.tail _ hp))
      exact ⟨up _ _ (hap p hp).2 this.1, this.2⟩
theorem eval_comp (hs : ∀ x, foldedSetIterable iter env x = pure x) (hclos : closureFor scope env = pure cl) (hkind : scope.kind = .function) (hnames : ∀ y ∈ scope.names, y.2 = .local → scope.names.lookup y.1 = some .local)
    (h : wpAny (model prog w) A (eval iter env) (fun xv s₁ => wpAny (model prog w) A (pyIter xv) (fun it s₂ => CompAt prog w A elt iter x px ifs scope cl pos env none Q E it s₂) E s₁) E s) :
    wpAny (model prog w) A (eval (.ListComp elt [⟨.Name x px, iter, ifs, 0⟩] scope pos) env) Q E s := by
  rw [eval_ListComp]
  exact wpAny_comprehension_free (use := none) rfl hs hclos hkind hnames h
theorem assign_comp {y : Str} {py : Pos} {spos : Pos} {Qf : Flow → Shared → Prop} (hsw : swapsWith (.ListComp elt [⟨.Name x px, iter, ifs, 0⟩] scope pos) (some (.Name y py)) spos.line env = pure true)
    (hs : ∀ x, foldedSetIterable iter env x = pure x) (hclos : closureFor scope env = pure cl) (hkind : scope.kind = .function) (hnames : ∀ y ∈ scope.names, y.2 = .local → scope.names.lookup y.1 = some .local)
    (h : wpAny (model prog w) A (eval iter env) (fun xv s₁ => wpAny (model prog w) A (pyIter xv) (fun it s₂ => CompAt prog w A elt iter x px ifs scope cl pos env (some (assign (.Name y py) env)) (fun _ s' => Qf .next s') E it s₂) E s₁) E s) :
    wpAny (model prog w) A (exec (.Assign [.Name y py] (.ListComp elt [⟨.Name x px, iter, ifs, 0⟩] scope pos) spos) env) Qf E s := by
  rw [exec_Assign_Name_used _ _ _ _ hsw]
  refine wpAny_bind (wpAny_standAt (wpAny_bind ?_))
  show wpAny _ A (do let _ ← comprehension (.ListComp elt [⟨.Name x px, iter, ifs, 0⟩] scope pos) scope env _ (newList []) false (eval iter env) (some (assign (.Name y py) env))) _ _ s
  exact wpAny_bind (wpAny_mono (wpAny_comprehension_free (use := some (assign (.Name y py) env)) (Q := fun _ s' => Qf .next s') rfl hs hclos hkind hnames h) (fun _ s' hq => wpAny_pure (wpAny_pure hq)) fun _ _ e => e)
/-- the block's own name -/
theorem block_name {C : Addr} {oC : Obj} {v : Value} {ledger : List (Addr × Obj)} (N : News h₀ L s.heap ledger) (hC : (C, oC) ∈ ledger) (hb : BindsN oC x v) (h : Q v s) (hk : scope.kind = .function) (hx : (compEnvC scope cl C env).kindOf x = some .local)
    (hd : (x == ("__debug__" : Str)) = false) : wpAny (model prog w) A (eval (.Name x px) (compEnvC scope cl C env)) Q E s := by
  refine Classical.byContradiction ?_; intro kG0
  obtain ⟨mC, hn, hv⟩ := hb _ _ (N _ hC).1
  refine kG0 ?_
  clear kG0
  exact wpAny_Name (wpAny_loadName_local (env := compEnvC scope cl C env) hk hx hn hv h) hd
/-- a name that the block takes from the frame's cells -/
theorem block_cell {C c : Addr} {o : Obj} {v : Value} {ledger : List (Addr × Obj)} (N : News h₀ L s.heap ledger) (hc : cl.lookup x = some c) (hm : (c, o) ∈ ledger) (hd : o.data = .cell (some v)) (h : Q v s) (hk : scope.kind = .function)
    (hl : (compEnvC scope cl C env).kindOf x = some .cell) (hdb : (x == ("__debug__" : Str)) = false) : wpAny (model prog w) A (eval (.Name x px) (compEnvC scope cl C env)) Q E s :=
  wpAny_Name (wpAny_loadName_cell (env := compEnvC scope cl C env) hk hl hc ⟨o, N.get hm, hd⟩ h) hdb
theorem EndC.grow {lead news₁ tl lold : List (Addr × Obj)} {v : Value} {I C D : Addr} {J : List (Addr × Obj) → Prop} {h' : Heap} {tk' : Nat} (F : Fr h₀ L h' m) (N : News h₀ L h' (tl ++ lold)) (ord : ∀ q ∈ lold, ∀ p ∈ tl, q.1 < p.1) (ld : Lead x v I C D lead news₁)
    (hsl : ∀ p ∈ lead ++ news₁, p ∈ lold) (hJ : J (tl ++ news₁)) : EndC h₀ L m lead I C D J s { s with heap := h', toks := tk' } := by
  refine .mk (news' := tl ++ news₁) F N (fun p hp => List.mem_append.mpr (.inr (hsl p (List.mem_append.mpr (.inl hp))))) (fun p hp => ?_) (fun p hp => ?_) hJ
  · rcases List.mem_append.mp hp with hp | hp
    · exact List.mem_append.mpr (.inl hp)
    · exact List.mem_append.mpr (.inr (hsl p (List.mem_append.mpr (.inr hp))))
  · rcases List.mem_append.mp hp with hp | hp
    · refine Classical.byContradiction ?_; intro kG0
      obtain ⟨⟨oC, hC, _⟩, ⟨oD, hD⟩, ⟨oI, hI⟩, _⟩ := ld
      refine kG0 ?_
      clear kG0
      have q := fun z hz => ord z (hsl z (List.mem_append.mpr (.inl hz))) p hp
      exact ⟨Nat.ne_of_gt (q _ hI), Nat.ne_of_gt (q _ hC), Nat.ne_of_gt (q _ hD)⟩
    · exact ld.ap p hp
theorem EndC.same {lead news₁ lold : List (Addr × Obj)} {v : Value} {I C D : Addr} {J : List (Addr × Obj) → Prop} {h' : Heap} {tk' : Nat} (F : Fr h₀ L h' m) (N : News h₀ L h' lold) (ld : Lead x v I C D lead news₁)
    (hsl : ∀ p ∈ lead ++ news₁, p ∈ lold) (hJ : J news₁) : EndC h₀ L m lead I C D J s { s with heap := h', toks := tk' } :=
  .mk (news' := news₁) F N (fun p hp => hsl p (List.mem_append.mpr (.inl hp))) (fun p hp => hsl p (List.mem_append.mpr (.inr hp))) ld.ap hJ
end
example : True := by
  k_with "eval ListComp" => (k_here; k_dflt (refine' eval_comp ?hs ?hclos ?hkind ?hnames ?_; (case hs => intro _; with_unfolding_all rfl); (case hclos => with_unfolding_all rfl); (case hkind => with_unfolding_all rfl); (case hnames => decide)))
  trivial
example : True := by
  k_with "exec Assign cons ListComp" => (k_here; k_dflt (refine' assign_comp ?hsw ?hs ?hclos ?hkind ?hnames ?_; (case hsw => with_unfolding_all rfl); (case hs => intro _; with_unfolding_all rfl); (case hclos => with_unfolding_all rfl); (case hkind => with_unfolding_all rfl); (case hnames => decide)))
  trivial
example : True := by
  k_with "eval Name" => (k_here; (with_reducible show wpAny _ _ (eval (PySem.Expr.Name _ _) (compEnvC _ _ _ _)) _ _ _); k_dflt (first | (refine' block_name ?N ?hC ?hb ?_ ?hk ?hx ?hd; (case hk => exact rfl); (case hx => with_unfolding_all rfl); (case hd => decide); (case N => k_asm); (case hb => assumption); (case hC => first | assumption | (k_extra "zz mem")); k_whole) | (refine' block_cell ?N ?hc ?hm ?hd ?_ ?hk ?hl ?hdb; (case hk => exact rfl); (case hl => with_unfolding_all rfl); (case hdb => decide); (case hc => with_unfolding_all rfl); (case N => k_asm); (case hd => assumption); (case hm => first | assumption | (k_extra "zz mem")); k_whole)))
  trivial
example : True := by w_top off; trivial
inductive AllV {α : Type} (R : Value → α → Prop) : List Value → List α → Prop
  | nil : AllV R [] []
  | cons {v : Value} {a : α} {vs : List Value} {as : List α} : R v a → AllV R vs as → AllV R (v :: vs) (a :: as)
section
variable {α : Type} {R R' : Value → α → Prop} {vs : List Value} {as : List α} {v : Value} {a : α}
theorem AllV.mono (h : AllV R vs as) (f : ∀ v a, R v a → R' v a) : AllV R' vs as := by
  induction h with
  | nil => exact .nil
  | cons x _ ih => exact .cons (f _ _ x) ih
theorem AllV.length (h : AllV R vs as) : vs.length = as.length := by
  induction h with
  | nil => rfl
  | cons _ _ ih => simp [ih]
theorem AllV.get (h : AllV R vs as) : ∀ {i : Nat}, vs[i]? = some v → ∃ a, as[i]? = some a ∧ R v a := by
  induction h with
  | nil => intro i e; simp at e
  | @cons v' a' r t x _ ih =>
    intro i e
    cases i with
    | zero => simp at e; subst e; exact ⟨a', by simp, x⟩
    | succ i => simp at e; obtain ⟨b, hb, hv⟩ := ih e; exact ⟨b, by simpa using hb, hv⟩
theorem AllV.get' (h : AllV R vs as) : ∀ {i : Nat}, as[i]? = some a → ∃ v, vs[i]? = some v ∧ R v a := by
  induction h with
  | nil => intro i e; simp at e
  | @cons v' a' r t x _ ih =>
    intro i e
    cases i with
    | zero => simp at e; subst e; exact ⟨v', by simp, x⟩
    | succ i => simp at e; obtain ⟨b, hb, hv⟩ := ih e; exact ⟨b, by simpa using hb, hv⟩
theorem AllV.snoc (h : AllV R vs as) (x : R v a) : AllV R (vs ++ [v]) (as ++ [a]) := by
  induction h with
  | nil => exact .cons x .nil
  | cons y _ ih => exact .cons y ih
theorem AllV.take (h : AllV R vs as) : ∀ n, AllV R (vs.take n) (as.take n) := by
  induction h with
  | nil => intro n; simp; exact .nil
  | cons x y ih =>
    intro n
    cases n with
    | zero => exact .nil
    | succ n => simpa using .cons x (ih n)
theorem AllV.append {us : List Value} {bs : List α} (h : AllV R vs as) (h' : AllV R us bs) : AllV R (vs ++ us) (as ++ bs) := by
  induction h with
  | nil => exact h'
  | cons x _ ih => exact .cons x ih
end
theorem AllV.ints {vs : List Value} {ns : List Int} (h : AllV IsI vs ns) : IntsAre vs ns := by
  induction h with
  | nil => exact .nil
  | cons x _ ih => obtain ⟨t, rfl⟩ := x; exact .cons _ t ih
theorem AllV.strs {vs : List Value} {ns : List Str} (h : AllV IsS vs ns) : StrsAre vs ns := by
  induction h with
  | nil => exact .nil
  | cons x _ ih => obtain ⟨t, rfl⟩ := x; exact .cons _ t ih
/-- a list or a tuple of the ledger, its items told -/
noncomputable def SeqIn {α : Type} (T : String) (R : List (Addr × Obj) → Value → α → Prop) (news : List (Addr × Obj)) (v : Value) (as : List α) : Prop :=
  ∃ a k vs, v = .ref a ∧ (a, ({ cls := .type T, data := .seq (List.toArray vs) k } : Obj)) ∈ news ∧ AllV (R news) vs as
theorem SeqIn.mono {α : Type} {T : String} {R : List (Addr × Obj) → Value → α → Prop} {news news' : List (Addr × Obj)} {v : Value} {as : List α} (h : SeqIn T R news v as) (hs : ∀ p ∈ news, p ∈ news') (hR : ∀ v a, R news v a → R news' v a) : SeqIn T R news' v as := by
  obtain ⟨a, k, vs, e, hm, hc⟩ := h
  exact ⟨a, k, vs, e, hs _ hm, hc.mono hR⟩
noncomputable abbrev TupIn (news : List (Addr × Obj)) (v : Value) (ns : List Int) : Prop := SeqIn "tuple" (fun _ => IsI) news v ns
noncomputable abbrev StrsIn (news : List (Addr × Obj)) (v : Value) (ns : List Str) : Prop := SeqIn "list" (fun _ => IsS) news v ns
section
variable {w : World} {A : Around} {E : Value → Shared → Prop} {s : Shared} {h₀ : Heap} {L a : Addr} {m : Str → Option Value} {news : List (Addr × Obj)} {vs : List Value} {k : Nat} {v : Value} {i : Int} {u : Tok}
theorem isList_of (N : News h₀ L s.heap news) (hm : (a, ({ cls := .type "list", data := .seq (List.toArray vs) k } : Obj)) ∈ news) : s.heap.IsList a vs.toArray := ⟨_, (N _ hm).1, rfl, _, rfl⟩
theorem isTup_of (N : News h₀ L s.heap news) (hm : (a, ({ cls := .type "tuple", data := .seq (List.toArray vs) k } : Obj)) ∈ news) : IsTup s.heap a vs.toArray := ⟨_, (N _ hm).1, rfl, _, rfl⟩
theorem len_L {Q : Value → Shared → Prop} (N : News h₀ L s.heap news) (hm : (a, ({ cls := .type "list", data := .seq (List.toArray vs) k } : Obj)) ∈ news) (hz : vs.length ≤ 1000) (h : Q (.int vs.length (s.toks + 1)) { s with toks := s.toks + 1 + 1 }) :
    wpAny (model PySem.Challenge.rw_zn0008_01.row.prog w) A (call (.builtin "len") [.ref a]) Q E s :=
  len_list (isList_of N hm) (by rw [List.size_toArray]; omega) (by rw [List.size_toArray]; exact h)
theorem len_T {Q : Value → Shared → Prop} (N : News h₀ L s.heap news) (hm : (a, ({ cls := .type "tuple", data := .seq (List.toArray vs) k } : Obj)) ∈ news) (hz : vs.length ≤ 1000) (h : Q (.int vs.length (s.toks + 1)) { s with toks := s.toks + 1 + 1 }) :
    wpAny (model PySem.Challenge.rw_zn0008_01.row.prog w) A (call (.builtin "len") [.ref a]) Q E s :=
  len_tuple (isTup_of N hm) (by rw [List.size_toArray]; omega) (by rw [List.size_toArray]; exact h)
/-- an item at an index, the index told -/
noncomputable def ItemIs (vs : List Value) (i : Int) (v : Value) : Prop := vs.length ≤ 1000 ∧ ((0 ≤ i ∧ vs[i.toNat]? = some v) ∨ (i < 0 ∧ -(vs.length : Int) ≤ i ∧ vs[(i + vs.length).toNat]? = some v))
theorem ItemIs.pos {n : Nat} (h : vs[n]? = some v) (hz : vs.length ≤ 1000) : ItemIs vs (n : Int) v := ⟨hz, .inl ⟨by omega, by simpa using h⟩⟩
theorem ItemIs.last {n : Nat} (h : vs[n]? = some v) (hl : vs.length = n + 1) (hz : vs.length ≤ 1000) : ItemIs vs (-1) v := ⟨hz, .inr ⟨by decide, by omega, by rw [show (-1 + (vs.length : Int)).toNat = n by omega]; exact h⟩⟩
theorem ItemIs.lt (h : ItemIs vs i v) : i < 1000 ∧ -1000 ≤ i := by
  obtain ⟨hz, ⟨h0, h1⟩ | ⟨h0, h1, _⟩⟩ := h
  · have := (List.getElem?_eq_some_iff.mp h1).1
    omega
  · omega
theorem item_L {value slice : PySem.Expr} {Q : Value → Shared → Prop} (N : News h₀ L s.heap news) (hm : (a, ({ cls := .type "list", data := .seq (List.toArray vs) k } : Obj)) ∈ news) (hi : ItemIs vs i v) (h : Q v s)
    (hs : subscripted slice false (.ref a) (.int i u) = operate [.ref a, .int i u] (getItem (.ref a) (.int i u))) (hg : ∀ r, letTemporaryGo value (.ref a) r = pure ()) :
    wpAny (model PySem.Challenge.rw_zn0008_01.row.prog w) A (subscriptTail value slice (.ref a) (.int i u)) Q E s := by
  have hl := isList_of N hm
  have hb := hi.lt
  refine subscriptTail_builtin hl.typeIs slot_list_getitem.lookup ?_ hs hg
  obtain ⟨hz, ⟨h0, h1⟩ | ⟨h0, h1, h2⟩⟩ := hi
  · exact wpAny_getItem_list hl h0 (by omega) (by simpa using h1) h
  · exact wpAny_getItem_list_neg hl h0 (by rw [List.size_toArray]; exact h1) (by omega) (by simpa using h2) h
theorem item_T {value slice : PySem.Expr} {Q : Value → Shared → Prop} (N : News h₀ L s.heap news) (hm : (a, ({ cls := .type "tuple", data := .seq (List.toArray vs) k } : Obj)) ∈ news) (hi : ItemIs vs i v) (h : Q v s)
    (hs : subscripted slice false (.ref a) (.int i u) = operate [.ref a, .int i u] (getItem (.ref a) (.int i u))) (hg : ∀ r, letTemporaryGo value (.ref a) r = pure ()) :
    wpAny (model PySem.Challenge.rw_zn0008_01.row.prog w) A (subscriptTail value slice (.ref a) (.int i u)) Q E s := by
  have hl := isTup_of N hm
  have hb := hi.lt
  obtain ⟨hz, ⟨h0, h1⟩ | ⟨h0, h1, h2⟩⟩ := hi
  · have hlt := (List.getElem?_eq_some_iff.mp h1).1
    exact item_tupleL (j := i.toNat) hl (by omega) (by omega) (StrLaws.seqIndex_nonneg h0 (by omega)) h1 h hs hg
  · exact item_tupleL (j := (i + vs.length).toNat) hl (by omega) (by omega) (StrLaws.seqIndex_neg h0 h1) h2 h hs hg
theorem item_some {value slice : PySem.Expr} {Q : Value → Shared → Prop} (N : News h₀ L s.heap news) (hm : (a, ({ cls := .type "list", data := .seq (List.toArray vs) k } : Obj)) ∈ news) (h0 : 0 ≤ i) (h1 : i < (vs.length : Int)) (hz : vs.length ≤ 1000) (h : ∀ v ∈ vs, Q v s)
    (hs : subscripted slice false (.ref a) (.int i u) = operate [.ref a, .int i u] (getItem (.ref a) (.int i u))) (hg : ∀ r, letTemporaryGo value (.ref a) r = pure ()) :
    wpAny (model PySem.Challenge.rw_zn0008_01.row.prog w) A (subscriptTail value slice (.ref a) (.int i u)) Q E s := by
  have hlt : i.toNat < vs.length := by omega
  exact item_L N hm (v := vs[i.toNat]) ⟨hz, .inl ⟨h0, List.getElem?_eq_getElem hlt⟩⟩ (h _ (List.getElem_mem hlt)) hs hg
theorem item_DI {value slice : PySem.Expr} {d : Addr} {o : Obj} {kvs : List (Int × Value)} {Q : Value → Shared → Prop} (N : News h₀ L s.heap news) (hp : (d, o) ∈ news) (hd : o.IsDictOf (PySem.intKind PySem.Challenge.rw_zn0008_01.row.prog w) kvs) (hv : valueAt kvs i = some v) (h : Q v { s with toks := s.toks + 1 })
    (hs : subscripted slice false (.ref d) (.int i u) = operate [.ref d, (.int i u)] (getItem (.ref d) (.int i u))) (hg : ∀ r, letTemporaryGo value (.ref d) r = pure ()) :
    wpAny (model PySem.Challenge.rw_zn0008_01.row.prog w) A (subscriptTail value slice (.ref d) (.int i u)) Q E s :=
  kda_item (knd := PySem.intKind PySem.Challenge.rw_zn0008_01.row.prog w) N hp hd (intKind_is _ _ _ _) hv h hs hg
theorem join_L {ys : List Str} {x : Str} {t : Tok} {Q : Value → Shared → Prop} (N : News h₀ L s.heap news) (hm : (a, ({ cls := .type "list", data := .seq (List.toArray vs) k } : Obj)) ∈ news) (hi : AllV IsS vs ys) (hx : x.length ≤ 64) (hok : (ys.map (·.length)).sum + ys.length * 64 ≤ 16777216)
    (h : ∀ t' k, Q (.str (Txt.join x ys) t') { s with toks := k }) : wpAny (model PySem.Challenge.rw_zn0008_01.row.prog w) A (call (.builtin "str.join") [.str x t, .ref a]) Q E s :=
  join_listC (isList_of N hm) (by simpa using hi.strs) hx hok h
theorem append_L {x : Value} {Q : Value → Shared → Prop} (F : Fr h₀ L s.heap m) (N : News h₀ L s.heap news) (hm : (a, ({ cls := .type "list", data := .seq (List.toArray vs) k } : Obj)) ∈ news) (hz : vs.length ≤ 1000)
    (h : ∀ h' k', Fr h₀ L h' m → News h₀ L h' ((a, ({ cls := .type "list", data := .seq (List.toArray (vs ++ [x])) k' } : Obj)) :: rmA a news) → Q .none { s with heap := h' }) :
    wpAny (model PySem.Challenge.rw_zn0008_01.row.prog w) A (call (.builtin "list.append") [.ref a, x]) Q E s := by
  have hN := N _ hm
  refine wpAny_list_append_plain (hsz := by rw [sizeLine_eq, List.size_toArray]; omega) ⟨k, hN.1⟩ fun h' hpl hs => ?_
  refine Classical.byContradiction ?_; intro kG0
  obtain ⟨k', hpl⟩ := hpl
  refine kG0 ?_
  clear kG0
  refine h h' k' (F.change hs hN.2.1 hN.2.2) fun p hp => ?_
  rcases List.mem_cons.mp hp with rfl | hp
  · exact ⟨by simpa using hpl, hN.2⟩
  · refine Classical.byContradiction ?_; intro kG0
    obtain ⟨h1, h2⟩ := mem_rm.mp hp
    refine kG0 ?_
    clear kG0
    exact ⟨hs.extBut _ _ h2 (N p h1).1, (N p h1).2⟩
theorem append_m {pl : Sem Bool} {Q : Value × List Value → Shared → Prop} (N : News h₀ L s.heap news) (hm : (a, ({ cls := .type "list", data := .seq (List.toArray vs) k } : Obj)) ∈ news) (h : Q (.builtin "list.append", [.ref a]) s) :
    wpAny (model PySem.Challenge.rw_zn0008_01.row.prog w) A (getMethod (.ref a) (Str.ofString "append") pl) Q E s :=
  getMethod_builtin (isList_of N hm).typeIs PySem.F.plainAttrs_list PySem.F.slot_list_append PySem.F.type_list_append (fun _ e => by cases e; exact ⟨_, (N _ hm).1, rfl⟩) h
end
theorem nd4 : List.Nodup [(1 : Int), -1, 2, -2] := by decide
theorem ndS : List.Nodup [Str.ofString "a", Str.ofString "A", Str.ofString "b", Str.ofString "B"] := by decide +kernel
example : True := by
  k_with "call builtin:len" => (k_here; (with_reducible show wpAny _ _ (call (Value.builtin "len") [Value.ref _]) _ _ _); k_dflt (first | (refine' len_L ?N ?hm ?hz ?_; (case N => k_asm); (case hm => first | assumption | (k_extra "zz mem")); (case hz => first | assumption | omega); k_whole) | (refine' len_T ?N ?hm ?hz ?_; (case N => k_asm); (case hm => first | assumption | (k_extra "zz mem")); (case hz => first | assumption | omega); k_whole)))
  trivial
example : True := by
  k_with "subscriptTail" => (k_here; (with_reducible show wpAny _ _ (subscriptTail _ _ (Value.ref _) (Value.int _ _)) _ _ _); k_dflt (first | (refine' item_L ?N ?hm ?hi ?_ ?hs ?hg; (case N => k_asm); (case hm => first | assumption | (k_extra "zz mem")); (case hi => assumption); (case hs => with_unfolding_all rfl); (case hg => intro _; with_unfolding_all rfl); k_whole) | (refine' item_T ?N ?hm ?hi ?_ ?hs ?hg; (case N => k_asm); (case hm => first | assumption | (k_extra "zz mem")); (case hi => assumption); (case hs => with_unfolding_all rfl); (case hg => intro _; with_unfolding_all rfl); k_whole) | (refine' item_DI ?N ?hm ?hd ?hv ?_ ?hs ?hg; (case N => k_asm); (case hm => first | assumption | (k_extra "zz mem")); (case hd => assumption); (case hs => with_unfolding_all rfl); (case hg => intro _; with_unfolding_all rfl); (case hv => first | exact rfl | (with_unfolding_all rfl)); k_whole)))
  trivial
example : True := by
  k_with "call builtin:str.join" => (k_here; (with_reducible show wpAny _ _ (call (Value.builtin _) [Value.str _ _, Value.ref _]) _ _ _); k_dflt (refine' join_L ?N ?hm ?hi ?hx ?hok ?_; (case N => k_asm); (case hm => first | assumption | (k_extra "zz mem")); (case hi => assumption); (case hx => decide); (case hok => assumption); k_whole); intro _ _)
  trivial
example : True := by
  k_with "call builtin:list.append" => (k_here; k_dflt (refine' append_L ?F ?N ?hm ?hz ?_; (case F => k_asm); (case N => k_asm); (case hm => first | assumption | (k_extra "zz mem")); (case hz => first | assumption | omega); k_whole); intro _ _ _ _; (try dsimp only); (try k_fold))
  trivial
example : True := by
  k_with "getMethod ref" => (k_here; (with_reducible show wpAny _ _ (getMethod (Value.ref _) (Str.ofString "append") _) _ _ _); k_dflt (refine' append_m ?N ?hm ?_; (case N => k_asm); (case hm => first | assumption | (k_extra "zz mem")); k_whole))
  trivial
example : True := by
  k_with "eval Dict" => (k_here; (with_reducible show wpAny _ _ (eval (PySem.Expr.Dict (some (PySem.Expr.Constant (Const.int _) _ _) :: _) _ _) _) _ _ _); k_dflt (refine' kdn_eval (knd := PySem.intKind PySem.Challenge.rw_zn0008_01.row.prog _) ?F ?N ?b ?a ?l ?e ?n ?_; (case F => k_asm); (case N => first | k_asm | exact News.nil); (case b => exact Top.nolimit (by k_asm)); (case a => rfl); (case l => rfl); (case e => exact List.cons_ne_nil _ _); (case n => exact Nat.le_of_ble_eq_true rfl)); walk_at "zz lt")
  trivial
example : True := by
  k_with "eval Dict" => (k_here; (with_reducible show wpAny _ _ (eval (PySem.Expr.Dict (some (PySem.Expr.Constant (Const.str _) _ _) :: _) _ _) _) _ _ _); k_dflt (refine' kdn_eval (knd := PySem.strKind PySem.Challenge.rw_zn0008_01.row.prog _) ?F ?N ?b ?a ?l ?e ?n ?_; (case F => k_asm); (case N => first | k_asm | exact News.nil); (case b => exact Top.nolimit (by k_asm)); (case a => rfl); (case l => rfl); (case e => exact List.cons_ne_nil _ _); (case n => exact Nat.le_of_ble_eq_true rfl)); walk_at "zz lt")
  trivial
example : True := by
  k_with "KdnMade" => (k_here; k_dflt (refine' kdn_made_int ?F ?N ?U ?d ?k ?n ?_; (case F => k_asm); (case N => k_asm); (case U => k_updF); (case d => k_asm); (case k => rfl); (case n => exact nd4)); walk_at "zz dn")
  trivial
example : True := by
  k_with "KdnMade" => (k_here; k_dflt (refine' kdn_made_str ?F ?N ?U ?d ?k ?n ?_; (case F => k_asm); (case N => k_asm); (case U => k_updF); (case d => k_asm); (case k => rfl); (case n => exact ndS)); walk_at "zz dn")
  trivial
example : True := by
  k_with "subscriptTail" => (k_here; (with_reducible show wpAny _ _ (subscriptTail _ _ (Value.ref _) (Value.int (Int.fmod _ 5) _)) _ _ _); k_dflt (refine' item_some ?N ?hm ?h0 ?h1 ?hz ?_ ?hs ?hg; (case N => k_asm); (case hm => first | assumption | (k_extra "zz mem")); (case h0 => exact fmod_lo _ (by decide)); (case h1 => exact Int.lt_of_lt_of_le (fmod_hi _ (by decide)) (Int.le_of_eq rfl)); (case hz => exact Nat.le_of_ble_eq_true rfl); (case hs => with_unfolding_all rfl); (case hg => intro _; with_unfolding_all rfl); k_whole); (repeat' (first | exact List.forall_mem_nil _ | refine List.forall_mem_cons.mpr ⟨?_, ?_⟩)))
  trivial
example : True := by w_top off; trivial
/-- texts as their codes -/
noncomputable def mkS (l : List Nat) : Str := ⟨l.toArray⟩
theorem str_ext {a b : Str} (h : a.cps.toList = b.cps.toList) : a = b := by
  cases a; cases b; exact congrArg Str.mk (Array.toList_inj.mp h)
theorem mkS_codes (l : List Nat) : (mkS l).cps.toList = l := rfl
theorem mkS_of (x : Str) : mkS x.cps.toList = x := rfl
theorem mkS_inj {a b : List Nat} (h : mkS a = mkS b) : a = b := by
  have := congrArg (fun x : Str => x.cps.toList) h
  simpa [mkS] using this
theorem mkS_app (a b : List Nat) : mkS a ++ mkS b = mkS (a ++ b) := str_ext (by show ((a.toArray ++ b.toArray) : Array Nat).toList = _; simp [mkS])
theorem mkS_len (a : List Nat) : (mkS a).length = a.length := by simp [mkS, Str.length]
theorem codes_app (a b : Str) : (a ++ b).cps.toList = a.cps.toList ++ b.cps.toList := by show (a.cps ++ b.cps).toList = _; simp
theorem sOpen : Str.ofString "{" = mkS [123] := by decide +kernel
theorem sClose : Str.ofString "}" = mkS [125] := by decide +kernel
theorem sNil : Str.ofString "" = mkS [] := by decide +kernel
theorem mul_one_sign (c : Nat) (n : Nat) : Txt.mul (mkS [c]) (n : Int) = mkS (List.replicate n c) := by
  unfold Txt.mul
  have fold : ∀ (k : Nat) (acc : Array Nat), ((List.replicate k (mkS [c]).cps).foldl (· ++ ·) acc).toList = acc.toList ++ List.replicate k c := by
    intro k
    induction k with
    | zero => intro acc; simp
    | succ k ih => intro acc; rw [List.replicate_succ, List.foldl_cons, ih, List.replicate_succ]; simp [mkS]
  by_cases h0 : n = 0
  · subst h0; rfl
  · rw [if_neg (by omega)]
    by_cases h1 : n = 1
    · subst h1; rfl
    · have e : ((n : Int) == 1 || (mkS [c]).length == 0) = false := by
        rw [mkS_len]; simp; omega
      rw [e, if_neg (by decide)]
      apply str_ext
      show ((List.replicate (n : Int).toNat (mkS [c]).cps).foldl (· ++ ·) #[]).toList = _
      rw [Int.toNat_natCast, fold, mkS_codes]; rfl
theorem join_flat (l : List Str) : Txt.join (mkS []) l = mkS (l.flatMap fun x => x.cps.toList) := by
  show Builtin.Str.glued (mkS []) l = _
  rw [StrLaws.glued_eq_join]
  induction l with
  | nil => rfl
  | cons x r ih =>
    cases r with
    | nil => apply str_ext; simp [Str.join, mkS]
    | cons y r =>
      apply str_ext
      show (x ++ mkS [] ++ Str.join (mkS []) (y :: r)).cps.toList = _
      rw [ih, codes_app, codes_app, mkS_codes, mkS_codes, mkS_codes]; simp
/-- a sign's code -/
noncomputable def cOf (n : Int) : Nat := if n = 1 then 97 else if n = -1 then 65 else if n = 2 then 98 else 66
noncomputable def placeL (h : List Int) : List Nat := List.replicate h.length 123 ++ h.flatMap fun n => [125, cOf n]
noncomputable def placeS (h : List Int) : Str := mkS (placeL h)
theorem placeL_len (h : List Int) : (placeL h).length = 3 * h.length := by
  unfold placeL
  rw [List.length_append, List.length_replicate]
  have : (h.flatMap fun n => [125, cOf n]).length = 2 * h.length := by
    induction h with
    | nil => rfl
    | cons n r ih => rw [List.flatMap_cons, List.length_append, ih]; simp; omega
  omega
theorem placeS_len (h : List Int) : (placeS h).length = 3 * h.length := by rw [placeS, mkS_len, placeL_len]
noncomputable def signS (n : Int) : Str := mkS [125, cOf n]
theorem written_eq (ns : List Int) : Txt.mul (Str.ofString "{") (ns.length : Int) ++ Txt.join (Str.ofString "") (ns.map signS) = placeS ns := by
  rw [sOpen, sNil, mul_one_sign, join_flat, mkS_app]
  unfold placeS placeL
  congr 2
  rw [List.flatMap_map]; rfl
theorem sgA : Str.ofString "}" ++ Str.ofString "a" = signS 1 := by decide +kernel
theorem sgB : Str.ofString "}" ++ Str.ofString "A" = signS (-1) := by decide +kernel
theorem sgC : Str.ofString "}" ++ Str.ofString "b" = signS 2 := by decide +kernel
theorem sgD : Str.ofString "}" ++ Str.ofString "B" = signS (-2) := by decide +kernel
theorem signS_len (n : Int) : (signS n).length = 2 := by rw [signS, mkS_len]; rfl
theorem signS_sum (ns : List Int) : ((ns.map signS).map (·.length)).sum = 2 * ns.length := by
  induction ns with
  | nil => rfl
  | cons n r ih => simp only [List.map_cons, List.sum_cons, List.length_cons, ih, signS_len]; omega
theorem join_signs_len (ns : List Int) : (Txt.join (Str.ofString "") (ns.map signS)).length = 2 * ns.length := by
  rw [sNil, join_flat, mkS_len, List.length_flatMap, ← signS_sum, List.map_map, List.map_map]
  rfl
theorem takeMap_snoc {α β : Type} {l : List α} {i : Nat} {a : α} (f : α → β) (h : l[i]? = some a) : (l.take (i + 1)).map f = (l.take i).map f ++ [f a] := by
  rw [List.take_add_one, h]; simp
example : True := by w_top off; trivial
namespace TS
open PySem.Builtin
theorem adjust_upto {b : Int} {n m : Nat} (hm : (b = m ∧ m ≤ n) ∨ (b < 0 ∧ b + n = m)) : Builtin.Slice.sliceAdjust none (some b) 1 (n : Int) = (0, (m : Int)) := by
  unfold Builtin.Slice.sliceAdjust
  have h1 : ¬ ((1 : Int) < 0) := by decide
  simp only [h1, if_false]
  congr 1
  rcases hm with ⟨rfl, h⟩ | ⟨h0, h⟩
  · rw [if_neg (by omega)]; omega
  · rw [if_pos h0]; omega
theorem places_upto (m : Nat) : Builtin.Slice.slicePlaces 0 (m : Int) 1 = m := by
  unfold Builtin.Slice.slicePlaces
  have h1 : (1 : Int) > 0 := by decide
  simp only [h1, if_true, Int.ediv_one]
  split <;> omega
section
variable {prog : Program} {w : World} {A : Around} {E : Value → Shared → Prop} {s : Shared}
theorem sliceApplied_upto {sl : Addr} {b : Int} {n m : Nat} {u : Tok} {Q : Int × Int × Nat → Shared → Prop} (hs : s.heap.IsSliceOf sl .none (.int b u) .none) (hm : (b = m ∧ m ≤ n) ∨ (b < 0 ∧ b + n = m)) (h : Q (0, 1, m) s) :
    wpAny (model prog w) A (Builtin.Slice.sliceApplied (.ref sl) (pure (n : Int))) Q E s := by
  refine Classical.byContradiction ?_; intro kG0
  obtain ⟨os, hos, hcs, hds⟩ := id hs
  refine kG0 ?_
  clear kG0
  unfold Builtin.Slice.sliceApplied Builtin.Slice.sliceFields
  refine wpAny_bind (wpAny_bind (wpAny_field hos hds (x := .none) rfl (wpAny_bind (wpAny_field hos hds (x := .int b u) rfl (wpAny_bind (wpAny_field hos hds (x := .none) rfl (wpAny_pure ?_)))))))
  refine wpAny_bind (slicePart_none ?_)
  show wpAny _ _ (if ((1 : Int) == 0) = true then _ else _) _ _ s
  rw [if_neg (by decide)]
  refine wpAny_bind (slicePart_none (wpAny_bind (slicePart_int (wpAny_bind (wpAny_pure ?_)))))
  show wpAny _ _ (match Builtin.Slice.sliceAdjust none (some b) 1 (n : Int) with | (lo, hi) => pure (lo, (1 : Int), Builtin.Slice.slicePlaces lo hi 1)) _ _ s
  rw [adjust_upto hm]
  show wpAny _ _ (pure ((0 : Int), (1 : Int), Builtin.Slice.slicePlaces 0 (m : Int) 1)) _ _ s
  rw [places_upto]
  exact wpAny_pure h
theorem pick_upto (xs : Array Value) (m : Nat) : ((List.range m).filterMap fun (k : Nat) => xs[((0 : Int) + (k : Int) * 1).toNat]?).toArray = (xs.toList.take m).toArray := by
  have e : (fun (k : Nat) => xs[((0 : Int) + (k : Int) * 1).toNat]?) = fun k => xs[0 + k]? := by
    funext k
    have : ((0 : Int) + (k : Int) * 1).toNat = 0 + k := by omega
    rw [this]
  rw [e]
  have := pick_run xs 0 m
  rw [List.filterMap_map] at this
  have e2 : ((fun x => xs[x]?) ∘ fun x => 0 + x) = fun k => xs[0 + k]? := rfl
  rw [e2] at this
  rw [this, List.drop_zero]
theorem getItem_tuple_upto {t sl : Addr} {items : Array Value} {b : Int} {m : Nat} {u : Tok} {Q : Value → Shared → Prop} (ht : IsTup s.heap t items) (hs : s.heap.IsSliceOf sl .none (.int b u) .none) (hm : (b = m ∧ m ≤ items.size) ∨ (b < 0 ∧ b + items.size = m))
    (h0 : m = items.size → Q (.ref t) s)
    (h : Q (.ref s.heap.objs.size) { s with heap := s.heap.push { cls := .type "tuple", data := .seq (items.toList.take m).toArray } })
    (hsz : items.size ≤ sizeLine) : wpAny (model prog w) A (getItem (.ref t) (.ref sl)) Q E s := by
  have hdrop : sizeOk (.seq (items.toList.take m).toArray) := by
    show (items.toList.take m).toArray.size ≤ sizeLine
    rw [List.size_toArray, List.length_take, Array.length_toList]
    omega
  refine Classical.byContradiction ?_; intro kG0
  obtain ⟨os, hos, hcs, hds⟩ := id hs
  refine kG0 ?_
  clear kG0
  have hTs : s.TypeIs (.ref sl) "slice" := ⟨os, hos, hcs⟩
  unfold getItem
  try with_reducible refine wpAny_holding ?_
  first | refine wpAny_bind (wpAny_pure ?_) | skip
  refine wpAny_bind (wpAny_sequenceKey ht.typeIs (by decide) ?_)
  refine wpAny_bind (wpAny_callSpecial?_slot (name := Str.ofString "__getitem__") ht.typeIs slot_tuple_getitem
    (wpAny_call_entry slot_tuple_getitem ht.typeIs entry_tuple_getitem ?_ (args_tuple_getitem _ _)))
  show wpAny _ _ (Builtin.Tuple.tupleItemsOf (.ref t) >>= _) _ _ s
  refine wpAny_bind (tupleItemsOf_ ht ?_)
  refine wpAny_bind (wpAny_typeOf hTs ?_)
  rw [if_pos (by decide)]
  refine wpAny_bind (sliceApplied_upto hs hm ?_)
  show wpAny _ _ (if ((0 : Int) == 0 && (1 : Int) == 1 && m == items.size) = true then _ else _) _ _ s
  by_cases hms : m = items.size
  · rw [if_pos (by rw [hms]; simp)]
    refine wpAny_bind (wpAny_bind (wpAny_typeOf ht.typeIs (wpAny_pure ?_)))
    rw [if_pos (by decide)]
    refine wpAny_bind (wpAny_rule (wpAny_pure ⟨_, rfl, wpAny_pure (h0 hms)⟩))
  rw [if_neg (by simpa using hms), pick_upto items m]
  first
    | exact wpAny_bind (m := Builtin.Tuple.tupleExact _) (wpAny_newObj_type (wpAny_pure ⟨_, rfl, wpAny_pure h⟩) hdrop)
    | exact wpAny_bind (m := Builtin.Tuple.tupleExact _) (wpAny_newObj_type (wpAny_bind (wpAny_pure (wpAny_pure ⟨_, rfl, wpAny_pure h⟩))) hdrop)
    | exact wpAny_bind (wpAny_bind (m := Builtin.Tuple.tupleExact _) (wpAny_newObj_type (wpAny_pure (wpAny_pure ⟨_, rfl, wpAny_pure h⟩)) hdrop))
    | exact wpAny_bind (wpAny_bind (m := Builtin.Tuple.tupleExact _) (wpAny_newObj_type (wpAny_pure ⟨_, rfl, wpAny_pure h⟩) hdrop))
end
end TS
section
variable {w : World} {A : Around} {E : Value → Shared → Prop} {s : Shared} {h₀ : Heap} {L t b : Addr} {m : Str → Option Value} {news : List (Addr × Obj)} {vs us : List Value} {k k' : Nat} {ns ms : List Int}
/-- t[:j], a new tuple -/
theorem slice_Tn {value slice : PySem.Expr} {j : Int} {n : Nat} {u : Tok} {Q : Value → Shared → Prop} (F : Fr h₀ L s.heap m) (N : News h₀ L s.heap news) (hm : (t, ({ cls := .type "tuple", data := .seq (List.toArray vs) k } : Obj)) ∈ news)
    (hb : ((j = n ∧ n ≤ vs.length) ∨ (j < 0 ∧ j + vs.length = n)) ∧ n ≠ vs.length ∧ vs.length ≤ 1000)
    (h : ∀ D h' k, Fr h₀ L h' m → News h₀ L h' ((D, ({ cls := .type "tuple", data := .seq (List.toArray (vs.take n)) k } : Obj)) :: news) → (∀ p ∈ news, p.1 < D) → Q (.ref D) { s with heap := h' })
    (hs : subscripted slice false (.ref t) (.ref s.heap.objs.size) = operate [.ref s.heap.objs.size, .ref t] (getItem (.ref t) (.ref s.heap.objs.size)))
    (hg : ∀ r, letTemporaryGo value (.ref t) r = pure ()) :
    wpAny (model PySem.Challenge.rw_zn0008_01.row.prog w) A (subscriptTail value slice (.ref t) (.ref s.heap.objs.size)) Q E { s with heap := s.heap.push { cls := .type "slice", data := .fields #[.none, .int j u, .none] } } := by
  have ht := isTup_of N hm
  have ht' : IsTup (s.heap.push { cls := .type "slice", data := .fields #[.none, .int j u, .none] }) t vs.toArray := ht.keeps fun _ _ e => Heap.get?_push_of_some _ e
  have N1 := News.push (F.push { cls := .type "slice", data := .fields #[.none, .int j u, .none] }) (N.grown fun _ _ e => Heap.get?_push_of_some _ e) { cls := .type "tuple", data := .seq (vs.toArray.toList.take n).toArray }
  refine subscriptTail_ops (s := { s with heap := s.heap.push { cls := .type "slice", data := .fields #[.none, .int j u, .none] } }) ht'.typeIs slot_tuple_getitem.lookup
    (TS.getItem_tuple_upto (m := n) ht' (Heap.IsSliceOf.new ..) (by simpa using hb.1) (fun e => absurd (by simpa using e) hb.2.1) ?_ (by rw [sizeLine_eq, List.size_toArray]; omega)) hs hg
  refine h _ _ _ ((F.push _).push _) N1 fun p hp => ?_
  have := Heap.lt_size (N p hp).1
  rw [Heap.size_push]
  exact Nat.lt_succ_of_lt this
/-- t[:j] -/
theorem slice_T {value slice : PySem.Expr} {j : Int} {n : Nat} {u : Tok} {Q : Value → Shared → Prop} (F : Fr h₀ L s.heap m) (N : News h₀ L s.heap news) (hm : (t, ({ cls := .type "tuple", data := .seq (List.toArray vs) k } : Obj)) ∈ news) (hi : AllV IsI vs ns)
    (hb : ((j = n ∧ n ≤ vs.length) ∨ (j < 0 ∧ j + vs.length = n)) ∧ vs.length ≤ 1000)
    (h : ∀ D h' tl, Fr h₀ L h' m → News h₀ L h' (tl ++ news) → TupIn (tl ++ news) (.ref D) (ns.take n) → Q (.ref D) { s with heap := h' })
    (hs : subscripted slice false (.ref t) (.ref s.heap.objs.size) = operate [.ref s.heap.objs.size, .ref t] (getItem (.ref t) (.ref s.heap.objs.size)))
    (hg : ∀ r, letTemporaryGo value (.ref t) r = pure ()) :
    wpAny (model PySem.Challenge.rw_zn0008_01.row.prog w) A (subscriptTail value slice (.ref t) (.ref s.heap.objs.size)) Q E { s with heap := s.heap.push { cls := .type "slice", data := .fields #[.none, .int j u, .none] } } := by
  have ht := isTup_of N hm
  have ht' : IsTup (s.heap.push { cls := .type "slice", data := .fields #[.none, .int j u, .none] }) t vs.toArray := ht.keeps fun _ _ e => Heap.get?_push_of_some _ e
  have N0 : News h₀ L (s.heap.push { cls := .type "slice", data := .fields #[.none, .int j u, .none] }) news := N.grown fun _ _ e => Heap.get?_push_of_some _ e
  have N1 := News.push (F.push { cls := .type "slice", data := .fields #[.none, .int j u, .none] }) N0 { cls := .type "tuple", data := .seq (vs.toArray.toList.take n).toArray }
  refine subscriptTail_ops (s := { s with heap := s.heap.push { cls := .type "slice", data := .fields #[.none, .int j u, .none] } }) ht'.typeIs slot_tuple_getitem.lookup
    (TS.getItem_tuple_upto (m := n) ht' (Heap.IsSliceOf.new ..) (by simpa using hb.1) (fun e => ?_) ?_ (by rw [sizeLine_eq, List.size_toArray]; omega)) hs hg
  · refine h _ _ [] (F.push _) N0 ⟨t, k, vs, rfl, hm, ?_⟩
    have e' : ns.take n = ns := by rw [show n = ns.length from by rw [← hi.length]; simpa using e, List.take_length]
    rw [e']; exact hi
  · exact h _ _ [_] ((F.push _).push _) N1 ⟨_, _, _, rfl, List.mem_cons_self, hi.take n⟩
theorem ne_T0t {x : Value} {Q : Value → Shared → Prop} (N : News h₀ L s.heap news) (hm : (t, ({ cls := .type "tuple", data := .seq (List.toArray vs) k } : Obj)) ∈ news) (hm' : (b, ({ cls := .type "tuple", data := .seq #[] k' } : Obj)) ∈ news) (hi : AllV IsI vs ns)
    (hne : ns ≠ []) (hu : A.units + 64 < cLine) (h : Q (.bool true) s) : wpAny (model PySem.Challenge.rw_zn0008_01.row.prog w) A (compareOp .NotEq (.ref t) (.ref b)) Q E s := by
  have sh := ke_shaped_ints ns
  refine Classical.byContradiction ?_; intro kG0
  obtain ⟨as, ra⟩ : ∃ as, ReadsAll s.heap vs (ns.map PyData.int) as := by
    clear hne hm sh
    induction hi with
    | nil => exact ⟨_, .nil⟩
    | cons x _ ih => obtain ⟨t, rfl⟩ := x; obtain ⟨as, q⟩ := ih; exact ⟨_, .cons (.int _ t) q⟩
  refine kG0 ?_
  clear kG0
  refine ne_dataH (reads_tuple_at (N.get hm) rfl rfl (by simpa using ra)) (reads_tuple_at (N.get hm') rfl rfl .nil) ?_ (by decide) hu ?_
  · simpa [SeqAt.shaped, PyData.canLay0, PyData.depth] using sh
  · cases ns with
    | nil => exact absurd rfl hne
    | cons n r => simpa [PyData.eqv, PyData.eqvAll] using h
theorem ne_T0f {Q : Value → Shared → Prop} (N : News h₀ L s.heap news) (hm : (t, ({ cls := .type "tuple", data := .seq (List.toArray vs) k } : Obj)) ∈ news) (hm' : (b, ({ cls := .type "tuple", data := .seq #[] k' } : Obj)) ∈ news)
    (hne : vs = []) (hu : A.units + 64 < cLine) (h : Q (.bool false) s) : wpAny (model PySem.Challenge.rw_zn0008_01.row.prog w) A (compareOp .NotEq (.ref t) (.ref b)) Q E s := by
  subst hne
  refine ne_dataH (reads_tuple_at (N.get hm) rfl rfl .nil) (reads_tuple_at (N.get hm') rfl rfl .nil) (by decide) (by decide) hu ?_
  simpa [PyData.eqv, PyData.eqvAll] using h
theorem add_T {Q : Value → Shared → Prop} (F : Fr h₀ L s.heap m) (N : News h₀ L s.heap news) (hm : (t, ({ cls := .type "tuple", data := .seq (List.toArray vs) k } : Obj)) ∈ news) (hm' : (b, ({ cls := .type "tuple", data := .seq (List.toArray us) k' } : Obj)) ∈ news)
    (hv : vs ≠ []) (hu : us ≠ []) (hz : vs.length + us.length ≤ 1000)
    (h : ∀ D h' k, Fr h₀ L h' m → News h₀ L h' ((D, ({ cls := .type "tuple", data := .seq (List.toArray (vs ++ us)) k } : Obj)) :: news) → (∀ p ∈ news, p.1 < D) → Q (.ref D) { s with heap := h' }) :
    wpAny (model PySem.Challenge.rw_zn0008_01.row.prog w) A (binaryOp .Add (.ref t) (.ref b)) Q E s :=
  kde_addT F N (isTup_of N hm) (isTup_of N hm') (by simpa using hv) (by simpa using hu) (by simp only [List.toList_toArray]; omega) rfl fun D h' F' N' l => h D h' _ F' (by simpa using N') l
theorem add_T0 {Q : Value → Shared → Prop} (F : Fr h₀ L s.heap m) (N : News h₀ L s.heap news) (hm : (t, ({ cls := .type "tuple", data := .seq (List.toArray vs) k } : Obj)) ∈ news) (hm' : (b, ({ cls := .type "tuple", data := .seq (List.toArray us) k' } : Obj)) ∈ news)
    (hv : vs = []) (hz : us.length ≤ 1000) (h : Q (.ref b) s) :
    wpAny (model PySem.Challenge.rw_zn0008_01.row.prog w) A (binaryOp .Add (.ref t) (.ref b)) Q E s :=
  kde_addT0 F N (isTup_of N hm) (isTup_of N hm') (by simpa using hv) (by subst hv; simp only [List.toList_toArray, List.length_nil]; omega) h
end
section
variable {v1 v2 v3 v4 : Value}
theorem sA_ne : ∀ {x y : String}, Str.ofString x ≠ Str.ofString y → (Str.ofString x = Str.ofString y) = False := fun h => eq_false h
theorem pick1 : valueAt [(Str.ofString "a", v1), (Str.ofString "A", v2), (Str.ofString "b", v3), (Str.ofString "B", v4)] (mkS [97]) = some v1 := by
  rw [show mkS [97] = Str.ofString "a" from by decide +kernel]; unfold valueAt; simp
theorem pick2 : valueAt [(Str.ofString "a", v1), (Str.ofString "A", v2), (Str.ofString "b", v3), (Str.ofString "B", v4)] (mkS [65]) = some v2 := by
  have e1 : (Str.ofString "a" = Str.ofString "A") = False := eq_false (by decide +kernel)
  rw [show mkS [65] = Str.ofString "A" from by decide +kernel]; unfold valueAt; simp [e1]
theorem pick3 : valueAt [(Str.ofString "a", v1), (Str.ofString "A", v2), (Str.ofString "b", v3), (Str.ofString "B", v4)] (mkS [98]) = some v3 := by
  have e1 : (Str.ofString "a" = Str.ofString "b") = False := eq_false (by decide +kernel)
  have e2 : (Str.ofString "A" = Str.ofString "b") = False := eq_false (by decide +kernel)
  rw [show mkS [98] = Str.ofString "b" from by decide +kernel]; unfold valueAt; simp [e1, e2]
theorem pick4 : valueAt [(Str.ofString "a", v1), (Str.ofString "A", v2), (Str.ofString "b", v3), (Str.ofString "B", v4)] (mkS [66]) = some v4 := by
  have e1 : (Str.ofString "a" = Str.ofString "B") = False := eq_false (by decide +kernel)
  have e2 : (Str.ofString "A" = Str.ofString "B") = False := eq_false (by decide +kernel)
  have e3 : (Str.ofString "b" = Str.ofString "B") = False := eq_false (by decide +kernel)
  rw [show mkS [66] = Str.ofString "B" from by decide +kernel]; unfold valueAt; simp [e1, e2, e3]
end
example : True := by
  k_with "subscriptTail" => (k_here; (with_reducible show wpAny _ _ (subscriptTail _ _ (Value.ref _) (Value.ref _)) _ _ _); k_dflt (first | (refine' slice_Tn ?F ?N ?hm ?hb ?_ ?hs ?hg; (case F => k_asm); (case N => k_asm); (case hm => first | assumption | (k_extra "zz mem")); (case hb => assumption); (case hs => with_unfolding_all rfl); (case hg => intro _; with_unfolding_all rfl); k_whole) | (refine' slice_T ?F ?N ?hm ?hi ?hb ?_ ?hs ?hg; (case F => k_asm); (case N => k_asm); (case hm => first | assumption | (k_extra "zz mem")); (case hi => assumption); (case hb => assumption); (case hs => with_unfolding_all rfl); (case hg => intro _; with_unfolding_all rfl); k_whole)); intro _ _ _ _ _ _; (try dsimp only); (try k_fold))
  trivial
example : True := by
  k_with "compareOp NotEq ref ref" => (k_here; (with_reducible show wpAny _ _ (compareOp CmpOp.NotEq (Value.ref _) (Value.ref _)) _ _ _); k_dflt (first | (refine' ne_T0t (x := Value.none) ?N ?hm ?hm' ?hi ?hne ?hu ?_; (case N => k_asm); (case hm => first | assumption | (k_extra "zz mem")); (case hm' => first | assumption | (k_extra "zz mem")); (case hi => assumption); (case hne => assumption); (case hu => ke_room); k_whole) | (refine' ne_T0f ?N ?hm ?hm' ?hne ?hu ?_; (case N => k_asm); (case hm => first | assumption | (k_extra "zz mem")); (case hm' => first | assumption | (k_extra "zz mem")); (case hne => assumption); (case hu => ke_room); k_whole)))
  trivial
example : True := by
  k_with "binaryOp Add ref ref" => (k_here; (with_reducible show wpAny _ _ (binaryOp _ (Value.ref _) (Value.ref _)) _ _ _); k_dflt (first | (refine' add_T ?F ?N ?hm ?hm' ?hv ?hu ?hz ?_; (case F => k_asm); (case N => k_asm); (case hm => first | assumption | (k_extra "zz mem")); (case hm' => first | assumption | (k_extra "zz mem")); (case hv => assumption); (case hu => exact List.cons_ne_nil _ _); (case hz => (simp only [List.length_cons, List.length_nil]; omega)); k_whole; intro _ _ _ _ _ _; (try dsimp only); (try k_fold)) | (refine' add_T0 ?F ?N ?hm ?hm' ?hv ?hz ?_; (case F => k_asm); (case N => k_asm); (case hm => first | assumption | (k_extra "zz mem")); (case hm' => first | assumption | (k_extra "zz mem")); (case hv => assumption); (case hz => exact Nat.le_of_ble_eq_true rfl); k_whole)))
  trivial
example : True := by
  k_with "subscriptTail" => (k_here; (with_reducible show wpAny _ _ (subscriptTail (PySem.Expr.Dict _ _ _) _ (Value.ref _) (Value.str _ _)) _ _ _); k_dflt (refine' my_sub ?kN ?kp ?kd ?kv ?_ ?hs ?hg; (case kN => k_asm); (case kp => first | assumption | (k_extra "zz mem")); (case kd => assumption); (case kv => first | exact pick1 | exact pick2 | exact pick3 | exact pick4); (case hs => with_unfolding_all rfl); (case hg => intro _; with_unfolding_all rfl); k_whole))
  trivial
example : True := by w_top off; trivial
theorem pick_sign {n : Int} {t1 t2 t3 t4 : Tok} (hn : n = 1 ∨ n = -1 ∨ n = 2 ∨ n = -2) : ∃ t, valueAt [((1 : Int), Value.str (Str.ofString "a") t1), ((-1 : Int), .str (Str.ofString "A") t2), ((2 : Int), .str (Str.ofString "b") t3), ((-2 : Int), .str (Str.ofString "B") t4)] n = some (.str (mkS [cOf n]) t) := by
  rcases hn with rfl | rfl | rfl | rfl
  · exact ⟨t1, congrArg (fun x => some (Value.str x t1)) (by decide +kernel)⟩
  · exact ⟨t2, congrArg (fun x => some (Value.str x t2)) (by decide +kernel)⟩
  · exact ⟨t3, congrArg (fun x => some (Value.str x t3)) (by decide +kernel)⟩
  · exact ⟨t4, congrArg (fun x => some (Value.str x t4)) (by decide +kernel)⟩
theorem sub_sign {w : World} {A : Around} {E : Value → Shared → Prop} {s : Shared} {h₀ : Heap} {L d : Addr} {news : List (Addr × Obj)} {o : Obj} {kvs : List (Int × Value)} {n : Int} {u : Tok} {value slice : PySem.Expr} {Q : Value → Shared → Prop} (N : News h₀ L s.heap news) (hp : (d, o) ∈ news) (hd : o.IsDictOf (PySem.intKind PySem.Challenge.rw_zn0008_01.row.prog w) kvs)
    (hv : ∃ t, valueAt kvs n = some (.str (mkS [cOf n]) t)) (h : ∀ t, Q (.str (mkS [cOf n]) t) { s with toks := s.toks + 1 })
    (hs : subscripted slice false (.ref d) (.int n u) = operate [.ref d, (.int n u)] (getItem (.ref d) (.int n u))) (hg : ∀ r, letTemporaryGo value (.ref d) r = pure ()) :
    wpAny (model PySem.Challenge.rw_zn0008_01.row.prog w) A (subscriptTail value slice (.ref d) (.int n u)) Q E s := by
  obtain ⟨t', e⟩ := hv
  exact item_DI N hp hd e (h t') hs hg
example : True := by
  k_with "subscriptTail Dict cons cons Name ref int" => (k_here; k_dflt (refine kba_turn (value' := PySem.Expr.Name (PySem.Str.ofString "_") ⟨0, 0, 0, 0⟩) (fun _ => rfl) ?_))
  trivial
example : True := by
  k_with "subscriptTail Name Name ref int" => (k_here; k_dflt (refine' sub_sign ?kN ?kp ?kd ?kv ?_ ?hs ?hg; (case kN => k_asm); (case kp => first | assumption | (k_extra "zz mem")); (case kd => assumption); (case hs => with_unfolding_all rfl); (case hg => intro _; with_unfolding_all rfl); (case kv => exact pick_sign (by assumption)); k_whole); intro _)
  trivial
theorem sg_any (n : Int) : Str.ofString "}" ++ mkS [cOf n] = signS n := by rw [sClose, mkS_app]; rfl
theorem written_tell (w : World) (ns : List Int) (hn : ns.length ≤ 20) (hk : ∀ n ∈ ns, n = 1 ∨ n = -1 ∨ n = 2 ∨ n = -2) :
   Tell w 182 345 300 (fun news vs => ∃ v, vs = [v] ∧ TupIn news v ns) (fun _ r => IsS r (placeS ns)) := by
  refine Tell.mk ?_
  intro mean mg mb A₀ gd env outer base h₀ L m news s vs Q E X
  revert X; k_fill; intro X
  intro hf hk' B F N T R hret
  refine Classical.byContradiction ?_; intro kG0
  obtain ⟨v, rfl, ⟨a, kk, vs, rfl, ma, hi⟩⟩ := R
  refine kG0 ?_
  clear kG0
  refine wpAny_call ?_
  k_dflt (k_extra "zz start")
  k_steps
  refine' comp_localJ ?S ?hn ?hcell ?hkind ?hx ?hy ?hp (fun i ys l => AllV IsS ys ((ns.take i).map signS) ∧ ∀ p ∈ news, p ∈ l) ⟨.nil, fun p hp => hp⟩ ?step ?done
  case S => exact src_tuple rfl (by assumption) (by assumption) ma rfl rfl
  case hn => have := hi.length; omega
  case hcell => decide
  case hkind => rfl
  case hx => rfl
  case hy => rfl
  case hp => rfl
  case step =>
    intro i v ys news₁ h tk C D I lead hi' hv pz1 ld hlow F₁ N₁
    refine Classical.byContradiction ?_; intro kG0
    obtain ⟨hys, hsub⟩ := pz1
    obtain ⟨n, hnn, t, rfl⟩ := hi.get hv
    have hmem : n ∈ ns := List.mem_of_getElem? hnn
    obtain ⟨oC, hC, hb⟩ := ld.cm
    refine kG0 ?_
    clear kG0
    have hC' : (C, oC) ∈ lead ++ news₁ := List.mem_append.mpr (.inl hC)
    refine wpAny_tests_nil ?_
    simp only [if_true]
    have hn4 := hk n hmem
    have h1c : (mkS [cOf n]).length = 1 := mkS_len _
    k_steps
    exact EndC.same (by assumption) (by assumption) ld (fun p hp => by (k_extra "zz mem")) ⟨by rw [takeMap_snoc signS hnn]; exact hys.snoc ⟨_, congrArg (fun x => Value.str x _) (sg_any n)⟩, hsub⟩
  case done =>
    intro D h tk ys news' k F₁ N₁ hlow hap pz2
    refine Classical.byContradiction ?_; intro kG0
    obtain ⟨hys, hsub⟩ := pz2
    refine kG0 ?_
    clear kG0
    have hlen := hi.length
    have hz : vs.length ≤ 1000 := by omega
    rw [show ns.take vs.length = ns from by rw [hlen, List.take_length]] at hys
    have ma' := hsub _ ma
    have hok : ((ns.map signS).map (·.length)).sum + (ns.map signS).length * 64 ≤ 16777216 := by rw [signS_sum, List.length_map]; omega
    have hjl := join_signs_len ns
    k_steps
    refine hret _ [] _ _ (by assumption) (newsOf (by assumption) fun p hp => by first | exact hsub p hp | exact .tail _ (hsub p hp)) ord0 ⟨_, congrArg (fun x => Value.str x _) (by rw [hlen]; exact written_eq ns)⟩
theorem TupIn.mono {news news' : List (Addr × Obj)} {v : Value} {ns : List Int} (h : TupIn news v ns) (hs : ∀ p ∈ news, p ∈ news') : TupIn news' v ns := SeqIn.mono h hs fun _ _ x => x
theorem written_use {w : World} {ns : List Int} {v : Value} (hn : ns.length ≤ 20 ∧ ∀ n ∈ ns, n = 1 ∨ n = -1 ∨ n = 2 ∨ n = -2)
    {mean : ExcName → Option Value} {mg mb : Str → Option Value} {A₀ A : Around} {env : Env} {outer : List Env} {base h₀ : Heap} {L : Addr} {m : Str → Option Value} {news : List (Addr × Obj)} {s : Shared} {Q E : Value → Shared → Prop}
    (a1 : A.handled = none) (a2 : A.depth ≤ 345) (a3 : A.units ≤ 300) (a4 : A.frames = some (env :: outer)) (a5 : env.frame = some L) (a6 : env.scope.kind = .function)
    (B : Below A₀ base outer h₀) (F : Fr h₀ L s.heap m) (X : (lay.heap_1 w.params).In h₀) (N : News h₀ L s.heap news) (T : Top V loo mean mg mb h₀) (R : TupIn news v ns)
    (k : ∀ t h' tk', Fr h₀ L h' m → News h₀ L h' news → Q (.str (placeS ns) t) { s with heap := h', toks := tk' }) :
    wpAny (model PySem.Challenge.rw_zn0008_01.row.prog w) A (call (.ref 182) [v]) Q E s := by
  refine (written_tell w ns hn.1 hn.2).use a1 a2 a3 a4 a5 a6 B F X N T ⟨v, rfl, R⟩ ?_
  intro r tl h' tk' F' N' _ pz3
  refine Classical.byContradiction ?_; intro kG0
  obtain ⟨t, rfl⟩ := pz3
  refine kG0 ?_
  clear kG0
  exact k t h' tk' F' (newsOf N' fun p hp => List.mem_append.mpr (.inr hp))
example : True := by
  k_with "call ref" => (k_here; (with_reducible show wpAny _ _ (call (Value.ref 182) _) _ _ _); k_dflt (refine' written_use ?hn ?a1 ?a2 ?a3 ?a4 ?a5 ?a6 ?kB ?kF ?kX ?kN ?kT ?kR ?_; (case a1 => exact rfl); (case a2 => exact Nat.le_of_ble_eq_true rfl); (case a3 => exact Nat.le_of_ble_eq_true rfl); (case a4 => exact rfl); (case a5 => exact rfl); (case a6 => exact rfl); (case kB => k_asm); (case kF => k_asm); (case kX => k_asm); (case kN => k_asm); (case kT => k_asm); (case kR => first | assumption | (refine TupIn.mono (by assumption) ?_; intro _ _; (k_extra "zz mem"))); (case hn => assumption); k_whole); intro _ _ _ _ _; (try dsimp only); (try k_fold))
  trivial
example : True := by w_top off; trivial
/-- a state's token, whatever it is -/
theorem my_toks {α : Type} {M : Model} {A : Around} {t : Sem α} {Q : α → Shared → Prop} {E : Value → Shared → Prop} {h : Heap} {g : Array GenState} {d : Drawn} {x : Nat} {os : OsState} (H : ∀ tk, wpAny M A t Q E ⟨h, g, d, tk, os⟩) : wpAny M A t Q E ⟨h, g, d, x, os⟩ := H x
example : True := by
  k_with "execs cons" => (k_here; (first | (with_reducible show wpAny _ _ _ _ _ (Shared.mk _ _ _ (HAdd.hAdd _ _) _)) | (with_reducible show wpAny _ _ _ _ _ (Shared.mk _ _ _ (Shared.toks _) _))); with_reducible refine my_toks ?_; intro _)
  trivial
example : True := by
  k_with "execs nil" => (k_here; (first | (with_reducible show wpAny _ _ _ _ _ (Shared.mk _ _ _ (HAdd.hAdd _ _) _)) | (with_reducible show wpAny _ _ _ _ _ (Shared.mk _ _ _ (Shared.toks _) _))); with_reducible refine my_toks ?_; intro _)
  trivial
example : True := by w_top off; trivial
noncomputable def headStep (h : List Int) (n : Int) : List Int := match h.getLast? with
  | some x => if x + n = 0 then h.dropLast else h ++ [n]
  | none => h ++ [n]
noncomputable def headEnd (ws : List Int) : List Int := ws.foldl headStep []
noncomputable def headsF (ws : List Int) : List (List Int) := (List.range (ws.length + 1)).map fun j => headEnd (ws.take j)
noncomputable def wordS (ws : List Int) : Str := mkS (ws.map cOf)
theorem headEnd_snoc (ws : List Int) (n : Int) : headEnd (ws ++ [n]) = headStep (headEnd ws) n := by
  unfold headEnd; rw [List.foldl_append]; rfl
theorem headEnd_take {ws : List Int} {i : Nat} {n : Int} (h : ws[i]? = some n) : headEnd (ws.take (i + 1)) = headStep (headEnd (ws.take i)) n := by
  rw [List.take_add_one, h]; exact headEnd_snoc _ _
theorem headStep_snoc (h : List Int) (x n : Int) : headStep (h ++ [x]) n = if x + n = 0 then h else h ++ [x] ++ [n] := by
  unfold headStep; simp
theorem nil_or_snoc {α : Type} (l : List α) : l = [] ∨ ∃ h x, l = h ++ [x] := by
  rcases List.eq_nil_or_concat l with h | ⟨h, x, e⟩
  · exact .inl h
  · exact .inr ⟨h, x, by rw [e, List.concat_eq_append]⟩
theorem headsF_take {ws : List Int} {i : Nat} {n : Int} (h : ws[i]? = some n) : headsF (ws.take (i + 1)) = headsF (ws.take i) ++ [headStep (headEnd (ws.take i)) n] := by
  have hi := (List.getElem?_eq_some_iff.mp h).1
  unfold headsF
  rw [List.length_take, List.length_take, Nat.min_eq_left (by omega), Nat.min_eq_left (by omega), List.range_succ, List.map_append]
  congr 1
  · apply List.map_congr_left
    intro j hj
    have := List.mem_range.mp hj
    rw [List.take_take, List.take_take, Nat.min_eq_left (by omega), Nat.min_eq_left (by omega)]
  · rw [List.map_singleton, List.take_take, Nat.min_self, headEnd_take h]
theorem headsF_len (ws : List Int) : (headsF ws).length = ws.length + 1 := by unfold headsF; simp
theorem headsF_last (ws : List Int) : (headsF ws)[ws.length]? = some (headEnd ws) := by
  unfold headsF
  rw [List.getElem?_map, List.getElem?_range (by omega)]; simp
theorem headStep_len (h : List Int) (n : Int) : (headStep h n).length ≤ h.length + 1 := by
  unfold headStep
  split
  · split
    · simp; omega
    · simp
  · simp
theorem headEnd_len (ws : List Int) : ∀ i, (headEnd (ws.take i)).length ≤ i
  | 0 => by simp [headEnd]
  | i + 1 => by
    cases h : ws[i]? with
    | none =>
      have := headEnd_len ws i
      have e : ws.take (i + 1) = ws.take i := by rw [List.take_add_one, h]; simp
      rw [e]; omega
    | some n =>
      rw [headEnd_take h]
      have := headStep_len (headEnd (ws.take i)) n
      have := headEnd_len ws i
      omega
noncomputable def HeadsIn (news : List (Addr × Obj)) (v : Value) (hs : List (List Int)) : Prop := SeqIn "list" TupIn news v hs
noncomputable def HeadsJ (d1 : Addr) (news : List (Addr × Obj)) (hs : List (List Int)) (m' : Str → Option Value) (news' : List (Addr × Obj)) : Prop :=
  m' (Str.ofString "heads") = some (.ref d1) ∧ (∀ p ∈ news, p ∈ news') ∧ ∃ vs k tl, (d1, ({ cls := .type "list", data := .seq (List.toArray vs) k } : Obj)) ∈ news' ∧ (∀ p ∈ tl, p ∈ news' ∧ p.1 ≠ d1 ∧ ∀ q ∈ news, q.1 < p.1) ∧ AllV (TupIn tl) vs hs
theorem heads_turn {d1 I L D : Addr} {news news₁ own lall tl₂ : List (Addr × Obj)} {hs : List (List Int)} {h1 : List Int} {g h' : Heap} {m' : Str → Option Value} {s : Shared} {tk' : Nat} {oI : Obj} {vs ws : List Value} {k k' k2 : Nat}
    (F : Fr g L h' m') (N : News g L h' ((d1, ({ cls := .type "list", data := .seq (List.toArray (vs ++ [.ref D])) k' } : Obj)) :: rmA d1 lall)) (hD : (D, ({ cls := .type "tuple", data := .seq (List.toArray ws) k2 } : Obj)) ∈ lall) (hw : AllV IsI ws h1)
    (hlt : ∀ q ∈ own ++ news₁, q.1 < D) (hsl : ∀ p ∈ own ++ news₁, p ∈ lall)
    (hoI : (I, oI) ∈ own) (hown : ∀ p ∈ own, p.1 ≠ d1) (hnI : ∀ p ∈ news₁, p.1 ≠ I) (hdI : d1 ≠ I) (mo : (d1, ({ cls := .type "list", data := .seq (List.toArray vs) k } : Obj)) ∈ news₁)
    (l1 : ∀ p ∈ news, p.1 < d1) (hsub : ∀ p ∈ news, p ∈ news₁) (htl : ∀ p ∈ tl₂, p ∈ news₁ ∧ p.1 ≠ d1 ∧ ∀ q ∈ news, q.1 < p.1) (hal : AllV (TupIn tl₂) vs hs) (m1 : m' (Str.ofString "heads") = some (.ref d1)) :
    EndJ g L own I (HeadsJ d1 news (hs ++ [h1])) s .next { s with heap := h', toks := tk' } := by
  have hDd : D ≠ d1 := Nat.ne_of_gt (hlt _ (List.mem_append.mpr (.inr mo)))
  have hDI : D ≠ I := Nat.ne_of_gt (hlt _ (List.mem_append.mpr (.inl hoI)))
  refine .mk (news' := (d1, ({ cls := .type "list", data := .seq (List.toArray (vs ++ [.ref D])) k' } : Obj)) :: (D, ({ cls := .type "tuple", data := .seq (List.toArray ws) k2 } : Obj)) :: rmA d1 news₁) F N (fun p hp => mem_put (hsl p (List.mem_append.mpr (.inl hp))) (hown p hp)) (fun p hp => ?_) (fun p hp => ?_)
    ⟨m1, fun p hp => ?_, vs ++ [.ref D], k', (D, ({ cls := .type "tuple", data := .seq (List.toArray ws) k2 } : Obj)) :: tl₂, List.mem_cons_self, fun p hp => ?_, (hal.mono fun _ _ x => x.mono fun p hp => .tail _ hp).snoc ⟨D, k2, ws, rfl, List.mem_cons_self, hw⟩⟩
  · rcases List.mem_cons.mp hp with rfl | hp
    · exact List.mem_cons_self
    · rcases List.mem_cons.mp hp with rfl | hp
      · exact mem_put hD hDd
      · refine Classical.byContradiction ?_; intro kG0
        obtain ⟨a, b⟩ := mem_rm.mp hp
        refine kG0 ?_
        clear kG0
        exact mem_put (hsl p (List.mem_append.mpr (.inr a))) b
  · rcases List.mem_cons.mp hp with rfl | hp
    · exact hdI
    · rcases List.mem_cons.mp hp with rfl | hp
      · exact hDI
      · exact hnI p (mem_rm.mp hp).1
  · exact .tail _ (.tail _ (mem_rm.mpr ⟨hsub p hp, Nat.ne_of_lt (l1 p hp)⟩))
  · rcases List.mem_cons.mp hp with rfl | hp
    · exact ⟨.tail _ List.mem_cons_self, hDd, fun q hq => hlt q (List.mem_append.mpr (.inr (hsub q hq)))⟩
    · refine Classical.byContradiction ?_; intro kG0
      obtain ⟨a, b, c⟩ := htl p hp
      refine kG0 ?_
      clear kG0
      exact ⟨.tail _ (.tail _ (mem_rm.mpr ⟨a, b⟩)), b, c⟩
theorem pick_num {n : Int} {t1 t2 t3 t4 : Tok} (hn : n = 1 ∨ n = -1 ∨ n = 2 ∨ n = -2) : ∃ t, valueAt [(Str.ofString "a", Value.int 1 t1), (Str.ofString "A", .int (-1) t2), (Str.ofString "b", .int 2 t3), (Str.ofString "B", .int (-2) t4)] (mkS [cOf n]) = some (.int n t) := by
  rcases hn with rfl | rfl | rfl | rfl
  · exact ⟨t1, pick1⟩
  · exact ⟨t2, pick2⟩
  · exact ⟨t3, pick3⟩
  · exact ⟨t4, pick4⟩
theorem get_num {w : World} {A : Around} {E : Value → Shared → Prop} {s : Shared} {h₀ : Heap} {L d : Addr} {news : List (Addr × Obj)} {o : Obj} {kvs : List (Str × Value)} {n : Int} {t : Tok} {Q : Value → Shared → Prop} (N : News h₀ L s.heap news) (hp : (d, o) ∈ news) (hd : o.IsDictOf (SK w) kvs) (hv : ∃ t, valueAt kvs (mkS [cOf n]) = some (.int n t)) (h : ∀ t, Q (.int n t) { s with toks := s.toks + 1 }) :
    wpAny (model PySem.Challenge.rw_zn0008_01.row.prog w) A (getItem (.ref d) (.str ⟨#[cOf n]⟩ t)) Q E s := by
  obtain ⟨t', e⟩ := hv
  exact my_get N hp hd e (h t')
example : True := by
  k_with "getItem ref str" => (k_here; k_dflt (refine' get_num ?kN ?kp ?kd ?kv ?_; (case kN => k_asm); (case kp => first | assumption | (k_extra "zz mem")); (case kd => assumption); (case kv => exact pick_num (by assumption)); k_whole); intro _)
  trivial
inductive NumEnd (g : Heap) (L : Addr) (key : Str) (m : Str → Option Value) (B : List (Addr × Obj)) (n : Int) (s : Shared) : Flow → Shared → Prop
  | mk {h2 : Heap} {tk2 : Nat} {t2 : Tok} {d2 : Addr} {o2 : Obj} : Fr g L h2 (fun y => if y = key then some (.int n t2) else m y) → News g L h2 ((d2, o2) :: B) → (∀ p ∈ B, p.1 < d2) → NumEnd g L key m B n s .next { s with heap := h2, toks := tk2 }
theorem heads_tell (w : World) (ws : List Int) (hn : ws.length ≤ 20) (hk : ∀ n ∈ ws, n = 1 ∨ n = -1 ∨ n = 2 ∨ n = -2) :
   Tell w 177 330 150 (fun _ vs => ∃ t, vs = [.str (wordS ws) t]) (fun tl r => HeadsIn tl r (headsF ws)) := by
  refine Tell.mk ?_
  intro mean mg mb A₀ gd env outer base h₀ L m news s vs Q E X
  revert X; k_fill; intro X
  intro hf hk' B F N T R hret
  refine Classical.byContradiction ?_; intro kG0
  obtain ⟨t1, rfl⟩ := R
  refine kG0 ?_
  clear kG0
  refine wpAny_call ?_
  k_dflt (k_extra "zz start")
  k_steps
  rename_i g1 L1 hA FG B1 X1 T1 kG tk0 D0 hB l0 d1 hC l1 hD F1 N1 tk1
  have l0' : ∀ p ∈ news, p.1 < d1 := ofAllLt l1.2
  refine' for_src (S := ?S) ?hx ?hp (fun i m' news' => HeadsJ d1 news (headsF (ws.take i)) m' news') ?h0 ?step ?done
  case S => exact src_str rfl F1 N1
  case hx => rfl
  case hp => rfl
  case h0 =>
    refine ⟨rfl, fun p hp => by (k_extra "zz mem"), [.ref D0], 0, [(D0, ({ cls := .type "tuple", data := .seq #[] 0 } : Obj))], by (k_extra "zz mem"), fun p hp => ?_, .cons ⟨D0, 0, [], rfl, List.mem_cons_self, .nil⟩ .nil⟩
    rw [List.mem_singleton.mp hp]
    exact ⟨by (k_extra "zz mem"), Nat.ne_of_lt l1.1, fun q hq => l0 q hq⟩
  case step =>
    intro i v m₁ news₁ h tk own I hi hv pz1 hnI pz2 hown hlt Fg Ng
    refine Classical.byContradiction ?_; intro kG0
    obtain ⟨m1, hsub, vs, kv, tl₂, mo, htl, hal⟩ := pz1
    obtain ⟨oI, hoI⟩ := pz2
    obtain ⟨c, t, hc, rfl⟩ := hv
    obtain ⟨n, hnn, rfl⟩ : ∃ n, ws[i]? = some n ∧ cOf n = c := by
      have e : (ws.map cOf)[i]? = some c := by rw [← mkS_codes (ws.map cOf), Array.getElem?_toList]; exact hc
      rw [List.getElem?_map] at e
      cases hw : ws[i]? with
      | none => rw [hw] at e; cases e
      | some n => rw [hw] at e; exact ⟨n, rfl, Option.some.inj e⟩
    refine kG0 ?_
    clear kG0
    have hil := (List.getElem?_eq_some_iff.mp hnn).1
    have hmem : n ∈ ws := List.mem_of_getElem? hnn
    have hown' : ∀ p ∈ own, p.1 ≠ d1 := fun p hp => (hown p hp).elim (fun e => by rw [e]; exact Ne.symm (Nat.ne_of_lt (hlt _ List.mem_cons_self))) fun e => nomatch e
    have hdI : d1 ≠ I := Nat.ne_of_lt (hlt _ List.mem_cons_self)
    rw [headsF_take hnn]
    have hvl : vs.length = i + 1 := by rw [hal.length, headsF_len, List.length_take, Nat.min_eq_left (by omega)]
    have hla : (headsF (ws.take i))[i]? = some (headEnd (ws.take i)) := by
      have := headsF_last (ws.take i)
      rwa [List.length_take, Nat.min_eq_left (by omega)] at this
    have hhl := headEnd_len ws i
    generalize hnx : headStep (headEnd (ws.take i)) n = nx
    generalize hh : headEnd (ws.take i) = hd at hla hhl hnx
    refine Classical.byContradiction ?_; intro kG0
    obtain ⟨vl, hvl2, b, kb, us, rfl, hbm, hbi⟩ := hal.get' hla
    refine kG0 ?_
    clear kG0
    have hitem : ItemIs vs (-1) (.ref b) := ItemIs.last hvl2 hvl (by omega)
    have mo' : (d1, ({ cls := .type "list", data := .seq (List.toArray vs) kv } : Obj)) ∈ own ++ news₁ := List.mem_append.mpr (.inr mo)
    have hbm' : (b, ({ cls := .type "tuple", data := .seq (List.toArray us) kb } : Obj)) ∈ own ++ news₁ := List.mem_append.mpr (.inr (htl _ hbm).1)
    have hul := hbi.length
    rw [map_put m1] at Fg
    -- the sign's number: four cases, and then one n
    refine wpAny_execs_cons ?_
    refine wpAny_mono (E := fun _ _ => False) (Q := NumEnd g1 L1 (Str.ofString "number") (fun y => if y = Str.ofString "sign" then some (.str ⟨#[cOf n]⟩ t) else if y = Str.ofString "heads" then some (.ref d1) else m₁ y) (own ++ news₁) n s) ?_ ?_ (fun _ _ e => e)
    · have hn4 := hk n hmem
      k_steps
      exact .mk (by assumption) (by assumption) (by assumption)
    intro f s' pz
    obtain ⟨Fn, Nn, ln⟩ := pz
    clear Fg Ng
    rcases nil_or_snoc hd with rfl | ⟨hp, x, rfl⟩
    · have hus : us = [] := List.eq_nil_of_length_eq_zero (by simpa using hul)
      have hnx1 : nx = [n] := hnx.symm
      subst hnx1
      k_steps
      exact heads_turn (by assumption) (by assumption) (by (k_extra "zz mem")) (.cons ⟨_, rfl⟩ .nil) (ofAllLt (And.right (And.right (by assumption)))) (fun p hp => by (k_extra "zz mem")) hoI hown' hnI hdI mo l0' hsub htl hal rfl
    · rw [headStep_snoc] at hnx
      have hpl : us.length = hp.length + 1 := by rw [hul]; simp
      have hne : hp ++ [x] ≠ [] := by simp
      have hus : us ≠ [] := fun e => by rw [e] at hpl; simp at hpl
      refine Classical.byContradiction ?_; intro kG0
      obtain ⟨vx, hvx, tx, rfl⟩ := hbi.get' (i := hp.length) (a := x) (by simp)
      refine kG0 ?_
      clear kG0
      have hiu : ItemIs us (-1) (.int x tx) := ItemIs.last hvx hpl (by omega)
      have hsl : (((-1 : Int) = (hp.length : Int) ∧ hp.length ≤ us.length) ∨ ((-1 : Int) < 0 ∧ (-1 : Int) + us.length = hp.length)) ∧ hp.length ≠ us.length ∧ us.length ≤ 1000 := ⟨.inr ⟨by omega, by omega⟩, by omega, by omega⟩
      have htk : AllV IsI (us.take hp.length) hp := by have := hbi.take hp.length; simpa using this
      k_steps
      · rw [if_pos (by assumption)] at hnx
        subst hnx
        exact heads_turn (by assumption) (by assumption) (by (k_extra "zz mem")) htk (fun q hq => (by assumption : ∀ p ∈ _, p.1 < _) q (by (k_extra "zz mem"))) (fun p hp => by (k_extra "zz mem")) hoI hown' hnI hdI mo l0' hsub htl hal rfl
      · rw [if_neg (by assumption)] at hnx
        subst hnx
        exact heads_turn (by assumption) (by assumption) (by (k_extra "zz mem")) (hbi.snoc ⟨_, rfl⟩) (fun q hq => (by assumption : ∀ p ∈ _, p.1 < _) q (by (k_extra "zz mem"))) (fun p hp => by (k_extra "zz mem")) hoI hown' hnI hdI mo l0' hsub htl hal rfl
  case done =>
    intro h tk m' news' Fg Ng pz3
    refine Classical.byContradiction ?_; intro kG0
    obtain ⟨m1, hsub, vs, kv, tl₂, mo, htl, hal⟩ := pz3
    refine kG0 ?_
    clear kG0
    rw [map_put m1] at Fg
    rw [show ws.take (wordS ws).cps.size = ws from by rw [show (wordS ws).cps.size = ws.length from by simp [wordS, mkS], List.take_length]] at hal
    k_steps
    refine hret _ ((d1, _) :: tl₂) _ _ (by assumption) (newsOf (by assumption) (fun p hp => ?_)) (fun q hq p hp => ?_) ⟨d1, kv, vs, rfl, List.mem_cons_self, hal.mono fun _ _ x => x.mono fun p hp => .tail _ hp⟩
    · rcases List.mem_append.mp hp with hp | hp
      · rcases List.mem_cons.mp hp with rfl | hp
        · exact mo
        · exact (htl p hp).1
      · exact hsub p hp
    · rcases List.mem_cons.mp hp with rfl | hp
      · exact l0' q hq
      · exact (htl p hp).2.2 q hq
example : True := by w_top off; trivial
example : True := by
  k_with "subscriptTail List cons BinOp ref int" => (k_here; k_dflt (refine kba_turn (value' := PySem.Expr.Name (PySem.Str.ofString "_") ⟨0, 0, 0, 0⟩) (fun _ => rfl) ?_))
  trivial
example : True := by
  k_with "subscriptTail Name BinOp ref int" => walk_at "subscriptTail"
  trivial
theorem word_nil (ws : List Int) : wordS ws ++ Str.ofString "" = wordS ws := by rw [sNil, wordS, mkS_app, List.append_nil]
theorem word_snoc (ws : List Int) (n : Int) : wordS ws ++ mkS [cOf n] = wordS (ws ++ [n]) := by rw [wordS, mkS_app, wordS, List.map_append]; rfl
theorem wA : Str.ofString "a" = mkS [cOf 1] := by decide +kernel
theorem wB : Str.ofString "A" = mkS [cOf (-1)] := by decide +kernel
theorem wC : Str.ofString "b" = mkS [cOf 2] := by decide +kernel
theorem wD : Str.ofString "B" = mkS [cOf (-2)] := by decide +kernel
noncomputable abbrev Four (ws : List Int) : Prop := ∀ n ∈ ws, n = 1 ∨ n = -1 ∨ n = 2 ∨ n = -2
theorem Four.snoc {ws : List Int} {n : Int} (h : Four ws) (hn : n = 1 ∨ n = -1 ∨ n = 2 ∨ n = -2) : Four (ws ++ [n]) := fun k hk => by
  rcases List.mem_append.mp hk with hk | hk
  · exact h k hk
  · rw [List.mem_singleton.mp hk]; exact hn
theorem word_out {ws : List Int} {i : Nat} {x : Str} {m' : Str → Option Value} {t : Tok} (hl : ws.length ≤ i) (h4 : Four ws) (hm : m' (Str.ofString "word") = some (.str (wordS ws ++ x) t))
    (hx : x = Str.ofString "" ∨ x = Str.ofString "a" ∨ x = Str.ofString "A" ∨ x = Str.ofString "b" ∨ x = Str.ofString "B") :
    ∃ (ws : List Int) (t : Tok), ws.length ≤ i + 1 ∧ (∀ n ∈ ws, n = 1 ∨ n = -1 ∨ n = 2 ∨ n = -2) ∧ m' (Str.ofString "word") = some (.str (wordS ws) t) := by
  rcases hx with rfl | rfl | rfl | rfl | rfl
  · exact ⟨ws, t, Nat.le_succ_of_le hl, h4, by rw [hm, word_nil]⟩
  · exact ⟨ws ++ [1], t, by rw [List.length_append]; exact Nat.succ_le_succ hl, h4.snoc (.inl rfl), by rw [hm, wA, word_snoc]⟩
  · exact ⟨ws ++ [-1], t, by rw [List.length_append]; exact Nat.succ_le_succ hl, h4.snoc (.inr (.inl rfl)), by rw [hm, wB, word_snoc]⟩
  · exact ⟨ws ++ [2], t, by rw [List.length_append]; exact Nat.succ_le_succ hl, h4.snoc (.inr (.inr (.inl rfl))), by rw [hm, wC, word_snoc]⟩
  · exact ⟨ws ++ [-2], t, by rw [List.length_append]; exact Nat.succ_le_succ hl, h4.snoc (.inr (.inr (.inr rfl))), by rw [hm, wD, word_snoc]⟩
noncomputable abbrev Sign1 (x : Str) : Prop := x = Str.ofString "" ∨ x = Str.ofString "a" ∨ x = Str.ofString "A" ∨ x = Str.ofString "b" ∨ x = Str.ofString "B"
theorem sign1_len {x : Str} (h : Sign1 x) : x.length ≤ 1 := by
  rcases h with rfl | rfl | rfl | rfl | rfl <;> decide +kernel
theorem item_word {w : World} {A : Around} {E : Value → Shared → Prop} {s : Shared} {h₀ : Heap} {L a : Addr} {news : List (Addr × Obj)} {k : Nat} {i : Int} {u t0 t1 t2 t3 t4 : Tok} {value slice : PySem.Expr} {Q : Value → Shared → Prop} (N : News h₀ L s.heap news)
    (hm : (a, ({ cls := .type "list", data := .seq (List.toArray [.str (Str.ofString "") t0, .str (Str.ofString "a") t1, .str (Str.ofString "A") t2, .str (Str.ofString "b") t3, .str (Str.ofString "B") t4]) k } : Obj)) ∈ news) (h0 : 0 ≤ i) (h1 : i < 5) (h : ∀ x t, Sign1 x → x.length ≤ 1 → Q (.str x t) s)
    (hs : subscripted slice false (.ref a) (.int i u) = operate [.ref a, .int i u] (getItem (.ref a) (.int i u))) (hg : ∀ r, letTemporaryGo value (.ref a) r = pure ()) :
    wpAny (model PySem.Challenge.rw_zn0008_01.row.prog w) A (subscriptTail value slice (.ref a) (.int i u)) Q E s := by
  have one : ∀ x t, Sign1 x → Q (.str x t) s := fun x t e => h x t e (sign1_len e)
  refine item_some N hm h0 h1 (Nat.le_of_ble_eq_true rfl) (fun v hv => ?_) hs hg
  simp only [List.mem_cons, List.not_mem_nil, or_false] at hv
  rcases hv with rfl | rfl | rfl | rfl | rfl
  · exact one _ _ (.inl rfl)
  · exact one _ _ (.inr (.inl rfl))
  · exact one _ _ (.inr (.inr (.inl rfl)))
  · exact one _ _ (.inr (.inr (.inr (.inl rfl))))
  · exact one _ _ (.inr (.inr (.inr (.inr rfl))))
example : True := by
  k_with "subscriptTail" => (k_here; (with_reducible show wpAny _ _ (subscriptTail _ _ (Value.ref _) (Value.int (Int.fmod _ 5) _)) _ _ _); k_dflt (refine' item_word ?N ?hm ?h0 ?h1 ?_ ?hs ?hg; (case N => k_asm); (case hm => first | assumption | (k_extra "zz mem")); (case h0 => exact fmod_lo _ (by decide)); (case h1 => exact fmod_hi _ (by decide)); (case hs => with_unfolding_all rfl); (case hg => intro _; with_unfolding_all rfl); k_whole); intro _ _ _ _)
  trivial
theorem word_tell (w : World) (code : Int) (sz : Nat) (hc : 0 ≤ code ∧ code < 125) (hs : sz ≤ 3) :
   Tell w 135 330 150 (fun _ vs => ∃ t1 t2, vs = [.int code t1, .int (sz : Int) t2]) (fun _ r => ∃ ws : List Int, ws.length ≤ sz ∧ (∀ n ∈ ws, n = 1 ∨ n = -1 ∨ n = 2 ∨ n = -2) ∧ IsS r (wordS ws)) := by
  refine Tell.mk ?_
  intro mean mg mb A₀ gd env outer base h₀ L m news s vs Q E X
  revert X; k_fill; intro X
  intro hf hk' B F N T R hret
  refine Classical.byContradiction ?_; intro kG0
  obtain ⟨t1, t2, rfl⟩ := R
  refine kG0 ?_
  clear kG0
  refine wpAny_call ?_
  k_dflt (k_extra "zz start")
  k_steps
  rename_i g1 L1 hA FG B1 X1 T1 kG tk0 hB FF NN tkb hC tkc ta ua va hR F1 N1 up1
  refine' for_src (S := ?S) ?hx ?hp (fun i m' news' => m' (Str.ofString "code") = some (.int code t1) ∧ (∀ p ∈ news, p ∈ news') ∧ ∃ (ws : List Int) (t : Tok), ws.length ≤ i ∧ (∀ n ∈ ws, n = 1 ∨ n = -1 ∨ n = 2 ∨ n = -2) ∧ m' (Str.ofString "word") = some (.str (wordS ws) t)) ?h0 ?step ?done
  case S => exact src_range rfl (by omega) F1 N1 hR
  case hx => rfl
  case hp => rfl
  case h0 => exact ⟨rfl, fun p hp => hp, [], _, Nat.le_refl _, List.forall_mem_nil _, congrArg (fun x => some (Value.str x _)) sNil⟩
  case step =>
    intro i v m₁ news₁ h tk own I hi pz1 pz2 hnI pz3 hown hlt Fg Ng
    refine Classical.byContradiction ?_; intro kG0
    obtain ⟨t, rfl⟩ := pz1
    obtain ⟨m1, hsub, ws, tw, hl, h4, m2⟩ := pz2
    obtain ⟨oI, hoI⟩ := pz3
    refine kG0 ?_
    clear kG0
    rw [map_put m1, map_put m2] at Fg
    have hwl : (wordS ws).length ≤ 3 := by rw [wordS, mkS_len, List.length_map]; omega
    have hi3 : i = 0 ∨ i = 1 ∨ i = 2 := by omega
    rcases hi3 with rfl | rfl | rfl
    · change Fr _ _ _ (fun y => if y = _ then some (Value.int 0 t) else _) at Fg
      k_steps
      all_goals exact EndJ.mk (news' := news₁) (by assumption) (by assumption) (fun p hp => by (k_extra "zz mem")) (fun p hp => by (k_extra "zz mem")) hnI ⟨rfl, hsub, word_out hl h4 rfl (by assumption)⟩
    · change Fr _ _ _ (fun y => if y = _ then some (Value.int 1 t) else _) at Fg
      k_steps
      all_goals exact EndJ.mk (news' := news₁) (by assumption) (by assumption) (fun p hp => by (k_extra "zz mem")) (fun p hp => by (k_extra "zz mem")) hnI ⟨rfl, hsub, word_out hl h4 rfl (by assumption)⟩
    · change Fr _ _ _ (fun y => if y = _ then some (Value.int 2 t) else _) at Fg
      k_steps
      all_goals exact EndJ.mk (news' := news₁) (by assumption) (by assumption) (fun p hp => by (k_extra "zz mem")) (fun p hp => by (k_extra "zz mem")) hnI ⟨rfl, hsub, word_out hl h4 rfl (by assumption)⟩
  case done =>
    intro h tk m' news' Fg Ng pz4
    refine Classical.byContradiction ?_; intro kG0
    obtain ⟨m1, hsub, ws, tw, hl, h4, m2⟩ := pz4
    refine kG0 ?_
    clear kG0
    rw [map_put m2] at Fg
    k_steps
    exact hret _ [] _ _ (by assumption) (newsOf (by assumption) hsub) ord0 ⟨ws, hl, h4, _, rfl⟩
example : True := by w_top off; trivial
noncomputable def backF (ws : List Int) : List Int := ws.reverse.map fun n => -n
theorem word_cons (n : Int) (ws : List Int) : mkS [cOf n] ++ wordS ws = wordS (n :: ws) := by rw [wordS, mkS_app, wordS]; rfl
theorem wcA (bs : List Int) : Str.ofString "A" ++ wordS bs = wordS (-1 :: bs) := by rw [wB]; exact word_cons _ _
theorem wcB (bs : List Int) : Str.ofString "a" ++ wordS bs = wordS (1 :: bs) := by rw [wA]; exact word_cons _ _
theorem wcC (bs : List Int) : Str.ofString "B" ++ wordS bs = wordS (-2 :: bs) := by rw [wD]; exact word_cons _ _
theorem wcD (bs : List Int) : Str.ofString "b" ++ wordS bs = wordS (2 :: bs) := by rw [wC]; exact word_cons _ _
theorem back_take {ws : List Int} {i : Nat} {n : Int} (h : ws[i]? = some n) : backF (ws.take (i + 1)) = -n :: backF (ws.take i) := by
  unfold backF; rw [List.take_add_one, h]; simp
theorem wordS_len (ws : List Int) : (wordS ws).length = ws.length := by rw [wordS, mkS_len, List.length_map]
theorem sign_at {ws : List Int} {i c : Nat} (hc : (wordS ws).cps[i]? = some c) : ∃ n, ws[i]? = some n ∧ cOf n = c := by
  have e : (ws.map cOf)[i]? = some c := by rw [← mkS_codes (ws.map cOf), Array.getElem?_toList]; exact hc
  rw [List.getElem?_map] at e
  cases hw : ws[i]? with
  | none => rw [hw] at e; cases e
  | some n => rw [hw] at e; exact ⟨n, rfl, Option.some.inj e⟩
theorem pick_back {n : Int} {t1 t2 t3 t4 : Tok} (hn : n = 1 ∨ n = -1 ∨ n = 2 ∨ n = -2) : ∃ t, valueAt [(Str.ofString "a", Value.str (Str.ofString "A") t1), (Str.ofString "A", .str (Str.ofString "a") t2), (Str.ofString "b", .str (Str.ofString "B") t3), (Str.ofString "B", .str (Str.ofString "b") t4)] (mkS [cOf n]) = some (.str (mkS [cOf (-n)]) t) := by
  rcases hn with rfl | rfl | rfl | rfl
  · exact ⟨t1, wB ▸ pick1⟩
  · exact ⟨t2, wA ▸ pick2⟩
  · exact ⟨t3, wD ▸ pick3⟩
  · exact ⟨t4, wC ▸ pick4⟩
theorem get_back {w : World} {A : Around} {E : Value → Shared → Prop} {s : Shared} {h₀ : Heap} {L d : Addr} {news : List (Addr × Obj)} {o : Obj} {kvs : List (Str × Value)} {n : Int} {t : Tok} {Q : Value → Shared → Prop} (N : News h₀ L s.heap news) (hp : (d, o) ∈ news) (hd : o.IsDictOf (SK w) kvs) (hv : ∃ t, valueAt kvs (mkS [cOf n]) = some (.str (mkS [cOf (-n)]) t)) (h : ∀ t, Q (.str (mkS [cOf (-n)]) t) { s with toks := s.toks + 1 }) :
    wpAny (model PySem.Challenge.rw_zn0008_01.row.prog w) A (getItem (.ref d) (.str ⟨#[cOf n]⟩ t)) Q E s := by
  obtain ⟨t', e⟩ := hv
  exact my_get N hp hd e (h t')
example : True := by
  k_with "getItem ref str" => (k_here; k_dflt (refine' get_back ?kN ?kp ?kd ?kv ?_; (case kN => k_asm); (case kp => first | assumption | (k_extra "zz mem")); (case kd => assumption); (case kv => exact pick_back (by assumption)); k_whole); intro _)
  trivial
theorem back_tell (w : World) (ws : List Int) (hn : ws.length ≤ 20) (hk : Four ws) :
   Tell w 142 330 150 (fun _ vs => ∃ t, vs = [.str (wordS ws) t]) (fun _ r => IsS r (wordS (backF ws))) := by
  refine Tell.mk ?_
  intro mean mg mb A₀ gd env outer base h₀ L m news s vs Q E X
  revert X; k_fill; intro X
  intro hf hk' B F N T R hret
  refine Classical.byContradiction ?_; intro kG0
  obtain ⟨t1, rfl⟩ := R
  refine kG0 ?_
  clear kG0
  refine wpAny_call ?_
  k_dflt (k_extra "zz start")
  k_steps
  rename_i g1 L1 hA FG B1 X1 T1 kG tk0 hB F1 N1 tk1
  refine' for_src (S := ?S) ?hx ?hp (fun i m' news' => (∀ p ∈ news, p ∈ news') ∧ ∃ t, m' (Str.ofString "turned") = some (.str (wordS (backF (ws.take i))) t)) ?h0 ?step ?done
  case S => exact src_str rfl F1 N1
  case hx => rfl
  case hp => rfl
  case h0 => exact ⟨fun p hp => hp, _, congrArg (fun x => some (Value.str x _)) sNil⟩
  case step =>
    intro i v m₁ news₁ h tk own I hi hv pz1 hnI pz2 hown hlt Fg Ng
    refine Classical.byContradiction ?_; intro kG0
    obtain ⟨hsub, tt, m1⟩ := pz1
    obtain ⟨oI, hoI⟩ := pz2
    obtain ⟨c, t, hc, rfl⟩ := hv
    obtain ⟨n, hnn, rfl⟩ := sign_at hc
    refine kG0 ?_
    clear kG0
    have hmem : n ∈ ws := List.mem_of_getElem? hnn
    have hbl : (wordS (backF (ws.take i))).length ≤ 20 := by rw [wordS_len, backF, List.length_map, List.length_reverse, List.length_take]; omega
    rw [back_take hnn]
    generalize backF (ws.take i) = bs at *
    rw [map_put m1] at Fg
    have hn4 := hk n hmem
    have h1c : (mkS [cOf (-n)]).length = 1 := mkS_len _
    k_steps
    exact EndJ.mk (news' := news₁) (by assumption) (by assumption) (fun p hp => by (k_extra "zz mem")) (fun p hp => by (k_extra "zz mem")) hnI ⟨hsub, _, congrArg (fun x => some (Value.str x _)) (word_cons _ bs)⟩
  case done =>
    intro h tk m' news' Fg Ng pz3
    refine Classical.byContradiction ?_; intro kG0
    obtain ⟨hsub, tt, m1⟩ := pz3
    refine kG0 ?_
    clear kG0
    rw [map_put m1] at Fg
    rw [show ws.take (wordS ws).cps.size = ws from by rw [show (wordS ws).cps.size = ws.length from by simp [wordS, mkS], List.take_length]] at Fg
    k_steps
    exact hret _ [] _ _ (by assumption) (newsOf (by assumption) hsub) ord0 ⟨_, rfl⟩
example : True := by w_top off; trivial
section
variable {prog : Program} {w : World} {A : Around} {E : Value → Shared → Prop} {s : Shared} {env : Env} {x : Str} {px : Pos} {body : List Stmt} {h₀ : Heap} {m : Str → Option Value} {news : List (Addr × Obj)}
/-- a for whose name is a cell -/
theorem for_srcC {Qf : Flow → Shared → Prop} {v₀ : Value} {n : Nat} {P : Nat → Value → Prop} {c : Addr} (S : Src prog w A h₀ env.locals m news s v₀ n P)
    (hk : env.scope.kind = .function) (hl : env.kindOf x = some .cell) (hc : env.cells.lookup x = some c) (hcv : v₀ ≠ .ref c)
    (J : Nat → (Str → Option Value) → List (Addr × Obj) → Prop) (h0 : J 0 m news) (hJc : ∀ i m' l, J i m' l → ∃ oc w₀, (c, oc) ∈ l ∧ oc.data = .cell w₀)
    (step : ∀ i v m₁ news₁ h tk own I o', i < n → P i v → J i m₁ news₁ → (∀ p ∈ news₁, p.1 ≠ I) → (∃ o, (I, o) ∈ own) → (∀ p ∈ own, (p.1 = I ∨ v₀ = .ref p.1) ∧ p.1 ≠ c) → (∀ p ∈ news, p.1 < I) → c ≠ I → o'.data = .cell (some v) →
      Fr h₀ env.locals h m₁ → News h₀ env.locals h (own ++ (c, o') :: rmA c news₁) →
      wpAny (model prog w) A (execs body env) (EndJ h₀ env.locals own I (J (i + 1)) s) (fun _ _ => False) { s with heap := h, toks := tk })
    (done : ∀ h tk m' news', Fr h₀ env.locals h m' → News h₀ env.locals h news' → J n m' news' → Qf .next { s with heap := h, toks := tk }) :
    wpAny (model prog w) A (pyIter v₀) (fun it s₂ => ForAt prog w A (.Name x px) body env Qf E it s₂) E s := by
  refine S _ _ fun I fp St h W hIs hLf hI0 hfp hfv hlt hst F N => ?_
  have hIf : I ∈ fp := W.sub I (List.mem_singleton.mpr rfl)
  have hLI : env.locals ≠ I := fun e => hLf (e ▸ hIf)
  refine codeAny_forLoop (LoopInv h₀ env.locals I n St J s) ?_ (n + 1) (.mk (i := 0) hst F N (fun p hp => Nat.ne_of_lt (hlt p hp)) h0 (Nat.zero_le _))
  intro k s' pz1
  obtain ⟨hst', F', N', hnI', hJ, hi⟩ := pz1
  rename_i h' tk m' news' i
  have old : ∀ h₁ : Heap, (∀ b o, b ∉ [I] → h'.get? b = some o → h₁.get? b = some o) → Fr h₀ env.locals h₁ m' ∧ News h₀ env.locals h₁ news' := fun h₁ hk₁ =>
    ⟨⟨F'.ns.at' fun o e => hk₁ _ o (fun hm => hLI (List.mem_singleton.mp hm)) e, fun b o e => hk₁ b o (fun hm => by rw [List.mem_singleton.mp hm, hI0] at e; cases e) (F'.keep b o e), F'.above⟩,
      fun p hp => ⟨hk₁ _ _ (fun hm => hnI' p hp (List.mem_singleton.mp hm)) (N' p hp).1, (N' p hp).2⟩⟩
  by_cases hlt' : i < n
  · refine W.item i _ _ _ hlt' hst' fun v h₁ tk₁ hP hst₁ hk₁ => ?_
    refine Classical.byContradiction ?_; intro kG0
    obtain ⟨F₁, N₁⟩ := old h₁ hk₁
    obtain ⟨oc, w₀, hcm, hcd⟩ := hJc _ _ _ hJ
    refine kG0 ?_
    clear kG0
    have hN := N₁ _ hcm
    have hcI : c ≠ I := hnI' _ hcm
    have hfc : ∀ b ∈ fp, b ≠ c := fun b hb e => (hfv b hb).elim (fun q => hcI (e.symm.trans q)) fun q => hcv (e ▸ q)
    refine wpAny_assign_Name (wpAny_storeName_cell hk hl hc ⟨oc, hN.1, hcd⟩ fun h₂ hv hs₂ => ?_)
    refine Classical.byContradiction ?_; intro kG0
    obtain ⟨o', ho', hd'⟩ := hv
    have F₂ : Fr h₀ env.locals h₂ m' := F₁.change hs₂ hN.2.1 hN.2.2
    have N₂ : News h₀ env.locals h₂ ((c, o') :: rmA c news') := fun p hp => by
      rcases List.mem_cons.mp hp with rfl | hp
      · exact ⟨ho', hN.2⟩
      · obtain ⟨a, b⟩ := mem_rm.mp hp
        exact ⟨hs₂.extBut _ _ b (N₁ p a).1, (N₁ p a).2⟩
    have Nown : News h₀ env.locals h₂ (ownOf h₀ fp h₂) := news_ownOf hLf
    have hst₂ : St (i + 1) h₂ := W.frame _ _ _ hst₁ fun b hb o e => hs₂.extBut b o (hfc b hb) e
    obtain ⟨oI, heI⟩ := hIs _ _ hst₂
    refine kG0 ?_
    clear kG0
    refine wpAny_mono (step i v m' news' h₂ _ (ownOf h₀ fp h₂) I o' hlt' hP hJ hnI' ⟨oI, mem_ownOf hIf hI0 heI⟩ (fun p hp => ⟨hfv _ (ownOf_sub p hp), hfc _ (ownOf_sub p hp)⟩) hlt hcI hd' F₂ (Nown.append N₂)) (fun f s₃ h₃ => ?_) fun _ _ e => e.elim
    refine Classical.byContradiction ?_; intro kG0
    obtain ⟨F₃, N₃, ho₃, hn₃, hI₃, hJ₃⟩ := h₃
    refine kG0 ?_
    clear kG0
    rename_i h₃' tk₃ m₃ l₃ news₃
    refine ⟨n + 1 - (i + 1), by omega, .mk ?_ F₃ (newsOf N₃ hn₃) hI₃ hJ₃ hlt'⟩
    refine W.frame _ _ _ hst₂ fun b hb o e => ?_
    cases hn : h₀.get? b with
    | some o₀ =>
      have : o₀ = o := by have := F₂.keep b o₀ hn; rw [e] at this; exact (Option.some.inj this).symm
      exact this ▸ F₃.keep b o₀ hn
    | none => exact (N₃ _ (ho₃ _ (mem_ownOf hb hn e))).1
  · have hin : i = n := by omega
    subst hin
    refine W.done _ _ _ hst' fun h₁ tk₁ hk₁ => wpAny_execs_nil ?_
    refine Classical.byContradiction ?_; intro kG0
    obtain ⟨F₁, N₁⟩ := old h₁ hk₁
    refine kG0 ?_
    clear kG0
    exact done h₁ tk₁ m' news' F₁ N₁ hJ
end
/-- a cell of the ledger, its value told -/
noncomputable def CellIn (news : List (Addr × Obj)) (c : Addr) (v : Option Value) : Prop := ∃ o, (c, o) ∈ news ∧ o.data = .cell v
section
variable {w : World} {A : Around} {E : Value → Shared → Prop} {s : Shared} {name : Str} {scope : Scope} {L a : Addr} {cd : Value} {h₀ : Heap} {m : Str → Option Value} {news : List (Addr × Obj)} {x : Str} {pos : Pos} {c : Addr} {v : Value}
theorem cell_read {o : Obj} {Q : Value → Shared → Prop} (N : News h₀ L s.heap news) (hc : (cellsFrom (L + 1) scope.names []).lookup x = some c) (hm : (c, o) ∈ news) (hd : o.data = .cell (some v)) (h : Q v s)
    (hk : scope.kind = .function) (hl : (envOfC name scope L a cd).kindOf x = some .cell) (hdb : (x == ("__debug__" : Str)) = false) :
    wpAny (model PySem.Challenge.rw_zn0008_01.row.prog w) A (eval (.Name x pos) (envOfC name scope L a cd)) Q E s := ldCN N hc hm hd h hk hl hdb
end
theorem countIn_count (x : Str) (ys : List Str) : PySem.Spec.countIn (.str x) (ys.map PyData.str) = (ys.count x : Int) := by
  induction ys with
  | nil => rfl
  | cons y r ih =>
    rw [List.map_cons, PySem.Spec.countIn, ih, List.count_cons]
    simp only [PySem.Spec.same]
    by_cases h : y = x
    · subst h; simp; omega
    · simp [h]
section
variable {w : World} {A : Around} {E : Value → Shared → Prop} {s : Shared} {h₀ : Heap} {L a : Addr} {m : Str → Option Value} {news : List (Addr × Obj)} {vs : List Value} {k : Nat} {ns : List Int} {ys : List Str} {x : Str} {t : Tok}
theorem sum_L {Q : Value → Shared → Prop} (hh : A.handled = none) (F : Fr h₀ L s.heap m) (N : News h₀ L s.heap news) (hm : (a, ({ cls := .type "list", data := .seq (List.toArray vs) k } : Obj)) ∈ news) (hi : AllV IsI vs ns)
    (h : ∀ h' tk t', Fr h₀ L h' m → News h₀ L h' news → Q (.int ns.sum t') { s with heap := h', toks := tk }) :
    wpAny (model PySem.Challenge.rw_zn0008_01.row.prog w) A (call (.builtin "sum") [.ref a]) Q E s := sumK hh F N (isList_of N hm) hi.ints h
theorem count_L {Q : Value → Shared → Prop} (N : News h₀ L s.heap news) (hm : (a, ({ cls := .type "list", data := .seq (List.toArray vs) k } : Obj)) ∈ news) (hi : AllV IsS vs ys)
    (h : Q (.int (ys.count x : Int) s.toks) { s with toks := s.toks + 1 }) :
    wpAny (model PySem.Challenge.rw_zn0008_01.row.prog w) A (call (.builtin "list.count") [.ref a, .str x t]) Q E s := count_list_strs (isList_of N hm) hi.strs (by rw [countIn_count]; exact h)
theorem count_m {pl : Sem Bool} {Q : Value × List Value → Shared → Prop} (N : News h₀ L s.heap news) (hm : (a, ({ cls := .type "list", data := .seq (List.toArray vs) k } : Obj)) ∈ news) (h : Q (.builtin "list.count", [.ref a]) s) :
    wpAny (model PySem.Challenge.rw_zn0008_01.row.prog w) A (getMethod (.ref a) (Str.ofString "count") pl) Q E s :=
  getMethod_builtin (isList_of N hm).typeIs PySem.F.plainAttrs_list PySem.F.slot_list_count PySem.F.type_list_count (fun _ e => by cases e; exact ⟨_, (N _ hm).1, rfl⟩) h
theorem cell_store {name : Str} {scope : Scope} {f c : Addr} {cd v : Value} {y : Str} {o : Obj} {v₀ : Option Value} {Q : Unit → Shared → Prop} (F : Fr h₀ L s.heap m) (N : News h₀ L s.heap news)
    (hc : (cellsFrom (L + 1) scope.names []).lookup y = some c) (hm : (c, o) ∈ news) (hd : o.data = .cell v₀) (hk : scope.kind = .function) (hl : (envOfC name scope L f cd).kindOf y = some .cell)
    (h : ∀ h' o', Fr h₀ L h' m → News h₀ L h' ((c, o') :: rmA c news) → o'.data = .cell (some v) → Q () { s with heap := h' }) :
    wpAny (model PySem.Challenge.rw_zn0008_01.row.prog w) A (storeName (envOfC name scope L f cd) y v) Q E s := by
  have hN := N _ hm
  refine wpAny_storeName_cell hk hl hc ⟨o, hN.1, hd⟩ fun h' hv hs => ?_
  refine Classical.byContradiction ?_; intro kG0
  obtain ⟨o', ho', hd'⟩ := hv
  refine kG0 ?_
  clear kG0
  refine h h' o' (F.change hs hN.2.1 hN.2.2) (fun p hp => ?_) hd'
  rcases List.mem_cons.mp hp with rfl | hp
  · exact ⟨ho', hN.2⟩
  · refine Classical.byContradiction ?_; intro kG0
    obtain ⟨a, b⟩ := mem_rm.mp hp
    refine kG0 ?_
    clear kG0
    exact ⟨hs.extBut _ _ b (N p a).1, (N p a).2⟩
end
example : True := by
  k_with "eval Name" => (k_here; (with_reducible show wpAny _ _ (eval (PySem.Expr.Name _ _) (envOfC _ _ _ _ _)) _ _ _); k_dflt (refine' cell_read ?N ?hc ?hm ?hd ?_ ?hk ?hl ?hdb; (case hk => exact rfl); (case hl => with_unfolding_all rfl); (case hdb => decide); (case hc => with_unfolding_all rfl); (case N => k_asm); (case hm => first | assumption | (k_extra "zz mem")); (case hd => assumption); k_whole))
  trivial
example : True := by
  k_with "call builtin:sum" => (k_here; (with_reducible show wpAny _ _ (call (Value.builtin "sum") [Value.ref _]) _ _ _); k_dflt (refine' sum_L ?hh ?F ?N ?hm ?hi ?_; (case hh => exact rfl); (case F => k_asm); (case N => k_asm); (case hm => first | assumption | (k_extra "zz mem")); (case hi => assumption); k_whole); intro _ _ _ _ _; (try dsimp only); (try k_fold))
  trivial
example : True := by
  k_with "call builtin:list.count" => (k_here; k_dflt (refine' count_L ?N ?hm ?hi ?_; (case N => k_asm); (case hm => first | assumption | (k_extra "zz mem")); (case hi => assumption); k_whole))
  trivial
example : True := by
  k_with "getMethod ref" => (k_here; (with_reducible show wpAny _ _ (getMethod (Value.ref _) (Str.ofString "count") _) _ _ _); k_dflt (refine' count_m ?N ?hm ?_; (case N => k_asm); (case hm => first | assumption | (k_extra "zz mem")); k_whole))
  trivial
example : True := by w_top off; trivial
noncomputable def timesU (names : List Str) (x : Str) (n : Nat) : List Int := ((List.range n).filter fun j => names[j]? == some x).map Int.ofNat
noncomputable def origU (names : List Str) (ts : List Int) : List Str := ts.filterMap fun k => if 0 < k then names[(k - 1).toNat]? else none
noncomputable def tabU (os l : List Str) : List (Str × Int) := l.foldl (fun t o => putK t o (os.count o : Int)) []
noncomputable def leftU (n : Nat) (ts : List Int) : List Int := ts.map fun k => (n : Int) - 1 - k
noncomputable def dueStat (names : List Str) (x : Str) : Stat :=
  ⟨1, (timesU names x names.length).length, (timesU names x names.length).sum, (leftU names.length (timesU names x names.length)).sum, tabU (origU names (timesU names x names.length)) (origU names (timesU names x names.length))⟩
noncomputable def dueOne (names : List Str) (b : List (Str × Stat)) (x : Str) : List (Str × Stat) := match lookK b x with
  | some _ => b
  | none => putK b x (dueStat names x)
noncomputable def dueUp (names : List Str) (i : Nat) : List (Str × Stat) := (names.take i).foldl (dueOne names) []
noncomputable def dueF (hs : List (List Int)) : List (Str × Stat) := dueUp (hs.map placeS) hs.length
theorem dueUp_succ {names : List Str} {i : Nat} {x : Str} (h : names[i]? = some x) : dueUp names (i + 1) = dueOne names (dueUp names i) x := by
  unfold dueUp; rw [List.take_add_one, h]; simp [List.foldl_append]
theorem dueUp_len (names : List Str) : ∀ i, (dueUp names i).length ≤ i
  | 0 => Nat.le_refl _
  | i + 1 => by
    have ih := dueUp_len names i
    cases h : names[i]? with
    | none =>
      have : dueUp names (i + 1) = dueUp names i := by unfold dueUp; rw [List.take_add_one, h]; simp
      rw [this]; omega
    | some x =>
      rw [dueUp_succ h]
      unfold dueOne
      split
      · omega
      · exact Nat.le_trans (putK_len _ _ _) (by omega)
theorem timesU_succ_t {names : List Str} {x : Str} {n : Nat} (h : (names[n]? == some x) = true) : timesU names x (n + 1) = timesU names x n ++ [(n : Int)] := by
  unfold timesU; rw [List.range_succ, List.filter_append, List.map_append]; simp [h]
theorem timesU_succ_f {names : List Str} {x : Str} {n : Nat} (h : (names[n]? == some x) = false) : timesU names x (n + 1) = timesU names x n := by
  unfold timesU; rw [List.range_succ, List.filter_append, List.map_append]; simp [h]
theorem timesU_mem {names : List Str} {x : Str} {n : Nat} {k : Int} (h : k ∈ timesU names x n) : ∃ j : Nat, k = (j : Int) ∧ j < n ∧ names[j]? = some x := by
  unfold timesU at h
  refine Classical.byContradiction ?_; intro kG0
  obtain ⟨j, hj, rfl⟩ := List.mem_map.mp h
  obtain ⟨a, b⟩ := List.mem_filter.mp hj
  refine kG0 ?_
  clear kG0
  exact ⟨j, rfl, List.mem_range.mp a, by simpa using b⟩
theorem timesU_len (names : List Str) (x : Str) (n : Nat) : (timesU names x n).length ≤ n := by
  unfold timesU; rw [List.length_map]; exact Nat.le_trans (List.length_filter_le _ _) (by simp)
theorem origU_take {names : List Str} {ts : List Int} {i : Nat} {k : Int} (h : ts[i]? = some k) : origU names (ts.take (i + 1)) = origU names (ts.take i) ++ (if 0 < k then names[(k - 1).toNat]? else none).toList := by
  unfold origU; rw [List.take_add_one, h, List.filterMap_append]; simp only [Option.toList_some, List.filterMap_cons, List.filterMap_nil]; generalize (if 0 < k then names[(k - 1).toNat]? else none) = z; cases z <;> rfl
theorem origU_len (names : List Str) (ts : List Int) : (origU names ts).length ≤ ts.length := List.length_filterMap_le _ _
theorem tabU_take {os l : List Str} {i : Nat} {o : Str} (h : l[i]? = some o) : tabU os (l.take (i + 1)) = putK (tabU os (l.take i)) o (os.count o : Int) := by
  unfold tabU; rw [List.take_add_one, h]; simp [List.foldl_append]
theorem tabU_len (os l : List Str) : (tabU os l).length ≤ l.length := by
  have : ∀ (l : List Str) (acc : List (Str × Int)), (l.foldl (fun t o => putK t o (os.count o : Int)) acc).length ≤ acc.length + l.length := by
    intro l
    induction l with
    | nil => intro acc; simp
    | cons o r ih => intro acc; rw [List.foldl_cons, List.length_cons]; have := ih (putK acc o (os.count o : Int)); have := putK_len acc o (os.count o : Int); omega
  simpa [tabU] using this l []
theorem leftU_take {n : Nat} {ts : List Int} {i : Nat} {k : Int} (h : ts[i]? = some k) : leftU n (ts.take (i + 1)) = leftU n (ts.take i) ++ [(n : Int) - 1 - k] := takeMap_snoc _ h
noncomputable def DueJ (w : World) (names : List Str) (d D cN cM : Addr) (oM : Obj) (ys : List Value) (kD : Nat) (news : List (Addr × Obj)) (i : Nat) (m' : Str → Option Value) (news' : List (Addr × Obj)) : Prop :=
  m' (Str.ofString "due") = some (.ref d) ∧ (∀ p ∈ news, p ∈ news') ∧ (D, ({ cls := .type "list", data := .seq (List.toArray ys) kD } : Obj)) ∈ news' ∧ (cM, oM) ∈ news' ∧ (∃ v, CellIn news' cN v) ∧
  ∃ o kvs tl, (d, o) ∈ news' ∧ o.IsDictOf (SK w) kvs ∧ (∀ p ∈ tl, p ∈ news' ∧ p.1 ≠ d ∧ p.1 ≠ cN ∧ ∀ q ∈ news, q.1 < p.1) ∧ AllKV (StatIn w tl) kvs (dueUp names i)
theorem due_turn {w : World} {nm : List Str} {d D c cM I L : Addr} {oM oN' o' : Obj} {ys : List Value} {kD i : Nat} {news news₁ own lall tlnew tl₂ : List (Addr × Obj)} {kvs' : List (Str × Value)} {v : Value} {g h' : Heap} {m' : Str → Option Value} {s : Shared} {tk' : Nat}
    (F : Fr g L h' m') (N : News g L h' lall) (hown : ∀ p ∈ own, p ∈ lall) (hrest : ∀ p ∈ news₁, p.1 ≠ c → p.1 ≠ d → p ∈ lall) (hc : (c, oN') ∈ lall) (hcd : oN'.data = .cell (some v)) (hd : (d, o') ∈ lall) (dd : o'.IsDictOf (SK w) kvs')
    (htn : ∀ p ∈ tlnew, p ∈ lall ∧ p.1 ≠ d ∧ p.1 ≠ c ∧ p.1 ≠ I ∧ ∀ q ∈ news, q.1 < p.1) (hal : AllKV (StatIn w (tlnew ++ tl₂)) kvs' (dueUp nm (i + 1)))
    (hnI : ∀ p ∈ news₁, p.1 ≠ I) (hcI : c ≠ I) (hdI : d ≠ I) (hcne : c ≠ d) (m1 : m' (Str.ofString "due") = some (.ref d))
    (hsub : ∀ p ∈ news, p ∈ news₁ ∧ p.1 ≠ c ∧ p.1 ≠ d) (mD : (D, ({ cls := .type "list", data := .seq (List.toArray ys) kD } : Obj)) ∈ news₁) (hD : D ≠ c ∧ D ≠ d) (mM : (cM, oM) ∈ news₁) (hM : cM ≠ c ∧ cM ≠ d)
    (htl : ∀ p ∈ tl₂, p ∈ news₁ ∧ p.1 ≠ d ∧ p.1 ≠ c ∧ ∀ q ∈ news, q.1 < p.1) :
    EndJ g L own I (fun m' l => DueJ w nm d D c cM oM ys kD news (i + 1) m' l) s .next { s with heap := h', toks := tk' } := by
  have keep : ∀ p ∈ news₁, p.1 ≠ c → p.1 ≠ d → p ∈ (d, o') :: (c, oN') :: (tlnew ++ rmA d (rmA c news₁)) := fun p a b e =>
    .tail _ (.tail _ (List.mem_append.mpr (.inr (mem_rm.mpr ⟨mem_rm.mpr ⟨a, b⟩, e⟩))))
  refine .mk (news' := (d, o') :: (c, oN') :: (tlnew ++ rmA d (rmA c news₁))) F N hown (fun p hp => ?_) (fun p hp => ?_)
    ⟨m1, fun p hp => keep p (hsub p hp).1 (hsub p hp).2.1 (hsub p hp).2.2, keep _ mD hD.1 hD.2, keep _ mM hM.1 hM.2, ⟨_, oN', .tail _ List.mem_cons_self, hcd⟩, o', kvs', tlnew ++ tl₂, List.mem_cons_self, dd, fun p hp => ?_, hal⟩
  · rcases List.mem_cons.mp hp with rfl | hp
    · exact hd
    · rcases List.mem_cons.mp hp with rfl | hp
      · exact hc
      · rcases List.mem_append.mp hp with hp | hp
        · exact (htn p hp).1
        · refine Classical.byContradiction ?_; intro kG0
          obtain ⟨a, b⟩ := mem_rm.mp hp
          refine kG0 ?_
          clear kG0
          exact hrest p (mem_rm.mp a).1 (mem_rm.mp a).2 b
  · rcases List.mem_cons.mp hp with rfl | hp
    · exact hdI
    · rcases List.mem_cons.mp hp with rfl | hp
      · exact hcI
      · rcases List.mem_append.mp hp with hp | hp
        · exact (htn p hp).2.2.2.1
        · exact hnI p (mem_rm.mp (mem_rm.mp hp).1).1
  · rcases List.mem_append.mp hp with hp | hp
    · exact ⟨.tail _ (.tail _ (List.mem_append.mpr (.inl hp))), (htn p hp).2.1, (htn p hp).2.2.1, (htn p hp).2.2.2.2⟩
    · refine Classical.byContradiction ?_; intro kG0
      obtain ⟨a, b, e, f⟩ := htl p hp
      refine kG0 ?_
      clear kG0
      exact ⟨keep p a e b, b, e, f⟩
theorem due_last {w : World} {nm : List Str} {d D c cM I L T dT : Addr} {oM oN' o' o₂ o5 oI : Obj} {ys : List Value} {kD i n : Nat} {news news₁ own rest B0 tl₂ : List (Addr × Obj)} {kvs₂ kvs5 : List (Str × Value)} {x : Str} {v : Value} {g h' : Heap} {m' : Str → Option Value} {s : Shared} {tk' : Nat} {st : Stat} {t1 t2 t3 t4 : Tok}
    (F : Fr g L h' m') (N : News g L h' ((d, o') :: rmA d ((T, ({ cls := .type "tuple", data := .seq #[.int st.cc t1, .int st.nc t2, .int st.tt t3, .int st.ct t4, .ref dT] n } : Obj)) :: rest)))
    (dd : o'.IsDictOf (SK w) (stored kvs₂ x (.ref T))) (hT : ∀ p ∈ rest, p.1 < T) (hdT : (dT, o5) ∈ rest) (hB : ∀ p ∈ B0, p ∈ rest) (hTB : ∀ p ∈ B0, p.1 < dT) (d5 : o5.IsDictOf (SK w) kvs5) (lo5 : (dT == sysModules) = false) (h5 : AllKV IsI kvs5 st.cal) (hst : dueStat nm x = st)
    (hx : nm[i]? = some x) (hl : lookK (dueUp nm i) x = none) (hal : AllKV (StatIn w tl₂) kvs₂ (dueUp nm i)) (bd : (d, o₂) ∈ B0)
    (bown : ∀ p ∈ own, p ∈ B0) (hoI : (I, oI) ∈ own) (hown : ∀ p ∈ own, p.1 ≠ d) (brest : ∀ p ∈ news₁, p.1 ≠ c → p ∈ B0) (hc : (c, oN') ∈ B0) (hcd : oN'.data = .cell (some v))
    (hnI : ∀ p ∈ news₁, p.1 ≠ I) (hcI : c ≠ I) (hdI : d ≠ I) (hcne : c ≠ d) (m1 : m' (Str.ofString "due") = some (.ref d))
    (hsub : ∀ p ∈ news, p ∈ news₁ ∧ p.1 ≠ c ∧ p.1 ≠ d) (mD : (D, ({ cls := .type "list", data := .seq (List.toArray ys) kD } : Obj)) ∈ news₁) (hD : D ≠ c ∧ D ≠ d) (mM : (cM, oM) ∈ news₁) (hM : cM ≠ c ∧ cM ≠ d)
    (htl : ∀ p ∈ tl₂, p ∈ news₁ ∧ p.1 ≠ d ∧ p.1 ≠ c ∧ ∀ q ∈ news, q.1 < p.1) :
    EndJ g L own I (fun m' l => DueJ w nm d D c cM oM ys kD news (i + 1) m' l) s .next { s with heap := h', toks := tk' } := by
  have hlow : ∀ p ∈ news, ∃ q ∈ B0, q = p := fun p hp => ⟨p, brest p (hsub p hp).1 (hsub p hp).2.1, rfl⟩
  have up : ∀ p ∈ B0, p.1 ≠ d → p ∈ (d, o') :: rmA d ((T, ({ cls := .type "tuple", data := .seq #[.int st.cc t1, .int st.nc t2, .int st.tt t3, .int st.ct t4, .ref dT] n } : Obj)) :: rest) := fun p hp e => mem_put (.tail _ (hB p hp)) e
  have hTd : dT < T := hT _ hdT
  have lt2 : ∀ p ∈ B0, p.1 < T := fun p hp => Nat.lt_trans (hTB p hp) hTd
  refine due_turn (tlnew := [(T, ({ cls := .type "tuple", data := .seq #[.int st.cc t1, .int st.nc t2, .int st.tt t3, .int st.ct t4, .ref dT] n } : Obj)), (dT, o5)]) F N (fun p hp => up p (bown p hp) (hown p hp)) (fun p a b e => up p (brest p a b) e) (up _ hc hcne) hcd List.mem_cons_self dd (fun p hp => ?_) ?_ hnI hcI hdI hcne m1 hsub mD hD mM hM htl
  · rcases List.mem_cons.mp hp with rfl | hp
    · exact ⟨mem_put List.mem_cons_self (Nat.ne_of_gt (lt2 _ bd)), Nat.ne_of_gt (lt2 _ bd), Nat.ne_of_gt (lt2 _ hc), Nat.ne_of_gt (lt2 _ (bown _ hoI)), fun q hq => by obtain ⟨_, h, rfl⟩ := hlow q hq; exact lt2 _ h⟩
    · rw [List.mem_singleton.mp hp]
      exact ⟨mem_put (.tail _ hdT) (Nat.ne_of_gt (hTB _ bd)), Nat.ne_of_gt (hTB _ bd), Nat.ne_of_gt (hTB _ hc), Nat.ne_of_gt (hTB _ (bown _ hoI)), fun q hq => by obtain ⟨_, h, rfl⟩ := hlow q hq; exact hTB _ h⟩
  · rw [dueUp_succ hx]
    unfold dueOne
    rw [hl, hst]
    exact (hal.mono fun _ _ y => y.mono fun p hp => List.mem_append.mpr (.inr hp)).put (statIn_lit List.mem_cons_self (calIn_lit (.tail _ List.mem_cons_self) d5 lo5 h5))
theorem due_tell (w : World) (hs : List (List Int)) (hn : hs.length ≤ 20) (hk : ∀ h ∈ hs, h.length ≤ 20 ∧ Four h) :
   Tell w 187 330 150 (fun news vs => ∃ v, vs = [v] ∧ HeadsIn news v hs) (fun tl r => BookIn w tl r (dueF hs)) := by
  refine Tell.mk ?_
  intro mean mg mb A₀ gd env outer base h₀ L m news s vs Q E X
  revert X; k_fill; intro X
  intro hf hk' B F N T R hret
  refine Classical.byContradiction ?_; intro kG0
  obtain ⟨v, rfl, a, kk, vs, rfl, ma, hi⟩ := R
  refine kG0 ?_
  clear kG0
  refine wpAny_call ?_
  k_dflt (refine' code_defC ?k1 ?k2 ?k3 ?k4 ?k5 ?kA ?kF ?kK ?k6 ?k7 ?k8 ?k9 ?kB ?kD ?_ ?c2 ?c3 ?c4; (case kA => first | exact rfl | assumption); (case kF => first | assumption | exact rfl); (case kK => first | assumption | exact rfl); (case k1 => k_asm); (case k2 => k_asm); (case k3 => k_asm); (case k4 => k_asm); (case k5 => k_asm); (case k6 => k_is); (case k7 => k_is); (case k8 => k_room); (case k9 => first | exact BindsTo.of_eq rfl | exact binds_K (by k_in) rfl (by k_is) rfl rfl rfl); (case kB => exact rfl); (case kD => decide); (case c2 => exact rfl); (case c3 => exact rfl); (case c4 => exact rfl); k_whole; intro g' L' h' tkk cells FG' F' N' Y B' X' T' l1; (try dsimp only); (try k_fold))
  k_steps
  refine' comp_evalJ ?S ?hn ?hcell ?hkind ?hx (fun i ys l => AllV IsS ys ((hs.take i).map placeS) ∧ ∀ p ∈ cells ++ news, p ∈ l) ⟨.nil, fun p hp => hp⟩ ?step ?done
  case S => exact src_list rfl F' N' (by (k_extra "zz mem")) rfl rfl
  case hn => have := hi.length; omega
  case hcell => decide
  case hkind => rfl
  case hx => rfl
  case step =>
    intro i v ys news₁ h tk C D I lead hi' hv pz1 ld hlow F₁ N₁
    refine Classical.byContradiction ?_; intro kG0
    obtain ⟨hys, hsub⟩ := pz1
    obtain ⟨hd, hhd, htp⟩ := hi.get hv
    have hmem : hd ∈ hs := List.mem_of_getElem? hhd
    have hok := hk hd hmem
    obtain ⟨oC, hC, hb⟩ := ld.cm
    refine kG0 ?_
    clear kG0
    have hC' : (C, oC) ∈ lead ++ news₁ := List.mem_append.mpr (.inl hC)
    have htp' : TupIn (lead ++ news₁) v hd := htp.mono fun p hp => List.mem_append.mpr (.inr (hsub p (List.mem_append.mpr (.inr hp))))
    refine wpAny_tests_nil ?_
    simp only [if_true]
    k_steps
    exact EndC.same (by assumption) (by assumption) ld (fun p hp => by (k_extra "zz mem")) ⟨by rw [takeMap_snoc placeS hhd]; exact hys.snoc ⟨_, rfl⟩, hsub⟩
  case done =>
    intro D h tk ys news' k F₁ N₁ hlow hap pz2
    refine Classical.byContradiction ?_; intro kG0
    obtain ⟨hys, hsub⟩ := pz2
    refine kG0 ?_
    clear kG0
    k_steps
    refine Classical.byContradiction ?_; intro kG0
    obtain ⟨oN, oM, rfl, hoN, hoM⟩ : ∃ oN oM, cells = [(L' + 1 + 1, oN), (L' + 1, oM)] ∧ oN.data = .cell none ∧ oM.data = .cell none := CellsAre.two Y
    refine kG0 ?_
    clear kG0
    clear Y
    have hlen := hi.length
    rw [show hs.take vs.length = hs from by rw [hlen, List.take_length]] at hys
    refine cell_store (c := L' + 1) (o := oM) (by assumption) (by assumption) (by with_unfolding_all rfl) (.tail _ (hsub _ (by simp))) hoM rfl (by with_unfolding_all rfl) ?_
    intro h2 oM' F₂ N₂ hoM'
    have hne : ∀ p ∈ news, p.1 ≠ L' + 1 ∧ p.1 ≠ L' + 1 + 1 := fun p hp => ⟨Nat.ne_of_lt (Nat.lt_succ_of_lt (l1 p hp)), Nat.ne_of_lt (Nat.lt_succ_of_lt (Nat.lt_succ_of_lt (l1 p hp)))⟩
    have hD1 : @LT.lt Nat _ (L' + 1) D := hlow (L' + 1, oM) (by simp)
    have hD2 : @LT.lt Nat _ (L' + 1 + 1) D := hlow (L' + 1 + 1, oN) (by simp)
    have hDn : ∀ p ∈ news, @LT.lt Nat _ p.1 D := fun p hp => hlow p (by simp [hp])
    have N₃ : News g' L' h2 ((D, ({ cls := .type "list", data := .seq ys.toArray k } : Obj)) :: (L' + 1, oM') :: (L' + 1 + 1, oN) :: news) := newsOf N₂ fun p hp => by
      rcases List.mem_cons.mp hp with rfl | hp
      · exact mem_put List.mem_cons_self (Nat.ne_of_gt hD1)
      · rcases List.mem_cons.mp hp with rfl | hp
        · exact List.mem_cons_self
        · rcases List.mem_cons.mp hp with rfl | hp
          · exact mem_put (.tail _ (hsub _ (by simp))) (Nat.ne_of_gt (Nat.lt_succ_self _))
          · exact mem_put (.tail _ (hsub _ (by simp [hp]))) (hne p hp).1
    clear N₂ N₁ F₁ hsub hap hlow N' F'
    k_steps
    rename_i tk3 d hd4 o4 lo4 hs4 fs4 hi4 fi4 l4 hd5 F₅ N₅ tk5
    have hyl : ys.length = hs.length := by rw [hys.length, List.length_map]
    have hnl : (hs.map placeS).length = hs.length := List.length_map _
    generalize hnm : hs.map placeS = nm at *
    have hld : ∀ p ∈ news, p.1 < d := ofAllLt l4.2.2.2
    refine' for_srcC (c := L' + 1 + 1) (S := ?S) ?hk ?hl ?hc ?hcv (fun i m' l => DueJ w nm d D (L' + 1 + 1) (L' + 1) oM' ys k news i m' l) ?h0 ?hJc ?step ?done
    case S => exact src_list rfl F₅ N₅ (by (k_extra "zz mem")) rfl rfl
    case hk => rfl
    case hl => with_unfolding_all rfl
    case hc => with_unfolding_all rfl
    case hcv => exact fun e => by injection e with e; exact absurd e (neN (by omega))
    case h0 => exact ⟨rfl, fun p hp => by (k_extra "zz mem"), by (k_extra "zz mem"), by (k_extra "zz mem"), ⟨_, oN, by (k_extra "zz mem"), hoN⟩, o4, [], [], by (k_extra "zz mem"), hs4, List.forall_mem_nil _, .nil⟩
    case hJc => exact fun i m' l hJ => by obtain ⟨_, _, _, _, ⟨v, o, a, b⟩, _⟩ := hJ; exact ⟨o, v, a, b⟩
    case step =>
      intro i v m₁ news₁ h tk own I oN' hi' hv pz3 hnI pz4 hown hlt hcI hoN' Fg Ng
      refine Classical.byContradiction ?_; intro kG0
      obtain ⟨m1, hsub, mD, mM, _, o₂, kvs₂, tl₂, mo, dd, htl, hal⟩ := pz3
      obtain ⟨oI, hoI⟩ := pz4
      have hsub3 : ∀ p ∈ news, p ∈ news₁ ∧ p.1 ≠ L' + 1 + 1 ∧ p.1 ≠ d := fun p hp => ⟨hsub p hp, (hne p hp).2, Nat.ne_of_lt (hld p hp)⟩
      have hD2' : D ≠ L' + 1 + 1 ∧ D ≠ d := ⟨Nat.ne_of_gt hD2, Nat.ne_of_lt l4.1⟩
      have hM2' : L' + 1 ≠ L' + 1 + 1 ∧ L' + 1 ≠ d := ⟨Nat.ne_of_lt (Nat.lt_succ_self _), Nat.ne_of_lt l4.2.1⟩
      have hc2' : L' + 1 + 1 ≠ d := Nat.ne_of_lt l4.2.2.1
      have hdI : d ≠ I := hnI _ mo
      have hownd : ∀ p ∈ own, p.1 ≠ d := fun p hp => (hown p hp).1.elim (fun e => by rw [e]; exact Ne.symm hdI) fun e => by injection e with e; rw [← e]; exact hD2'.2
      clear hret hi hk F N T X B FG' F₅ N₅ hne hoN hoM ma hf hk' l1 hs4 fs4 hi4 fi4
      obtain ⟨x, hx, tx, rfl⟩ := hys.get hv
      rw [map_put m1] at Fg
      have hdD : @LT.lt Nat _ D d := l4.1
      have hdN : @LT.lt Nat _ (L' + 1 + 1) d := l4.2.2.1
      have bown : ∀ p ∈ own, p ∈ own ++ (L' + 1 + 1, oN') :: rmA (L' + 1 + 1) news₁ := fun p hp => List.mem_append.mpr (.inl hp)
      have brest : ∀ p ∈ news₁, p.1 ≠ L' + 1 + 1 → p ∈ own ++ (L' + 1 + 1, oN') :: rmA (L' + 1 + 1) news₁ := fun p hp q => List.mem_append.mpr (.inr (.tail _ (mem_rm.mpr ⟨hp, q⟩)))
      have bN : (L' + 1 + 1, oN') ∈ own ++ (L' + 1 + 1, oN') :: rmA (L' + 1 + 1) news₁ := List.mem_append.mpr (.inr List.mem_cons_self)
      generalize own ++ (L' + 1 + 1, oN') :: rmA (L' + 1 + 1) news₁ = B0 at *
      refine kG0 ?_
      clear kG0
      have bD := brest _ mD (Nat.ne_of_gt hD2)
      have bM := brest _ mM (Nat.ne_of_lt (Nat.lt_succ_self _))
      have bd := brest _ mo (Nat.ne_of_gt hdN)
      have hkz : kvs₂.length ≤ 1000 := by have := hal.length; have := dueUp_len nm i; omega
      have hyz : ys.length ≤ 1000 := by omega
      rcases hal.look (k := x) with ⟨hn', hl⟩ | ⟨vv, st, hv2, hl, hst⟩
      · k_steps
        rename_i tk6 h6 tk7 t7 u7 v7 hR7 F7 N7 up7
        clear up7
        refine' comp_localJ ?S ?hn ?hcell ?hkind ?hx ?hy ?hp (fun j zs l => AllV IsI zs (timesU nm x j) ∧ ∀ p ∈ B0, p ∈ l) ⟨.nil, fun p hp => hp⟩ ?step2 ?done2
        case S => exact src_range rfl (by omega) F7 N7 hR7
        case hn => omega
        case hcell => decide
        case hkind => rfl
        case hx => rfl
        case hy => rfl
        case hp => rfl
        case step2 =>
          intro j v zs news₂ h tk C D' I' lead hj pz5 pz6 ld hlow F₁ N₁
          refine Classical.byContradiction ?_; intro kG0
          obtain ⟨t, rfl⟩ := pz5
          obtain ⟨hzs, hsub'⟩ := pz6
          obtain ⟨oC, hC, hb⟩ := ld.cm
          have hC' : (C, oC) ∈ lead ++ news₂ := List.mem_append.mpr (.inl hC)
          obtain ⟨y, hy, ty, hyv⟩ : ∃ y, nm[j]? = some y ∧ ∃ ty, ys[j]? = some (.str y ty) := by
            have hlt : j < ys.length := hj
            obtain ⟨y, hy, ty, e⟩ := hys.get (List.getElem?_eq_getElem hlt)
            exact ⟨y, hy, ty, by rw [List.getElem?_eq_getElem hlt, e]⟩
          refine kG0 ?_
          clear kG0
          have hit : ItemIs ys (0 + (j : Int)) (.str y ty) := by rw [Int.zero_add]; exact ItemIs.pos hyv hyz
          have up : ∀ p ∈ B0, p ∈ lead ++ news₂ := fun p hp => List.mem_append.mpr (.inr (hsub' p hp))
          have bD' := up _ bD
          have bM' := up _ bM
          have bN' := up _ bN
          refine wpAny_tests_one ?_
          k_steps
          · exact EndC.same (by assumption) (by assumption) ld (fun p hp => hp) ⟨by rw [timesU_succ_t (by rw [hy]; assumption)]; exact hzs.snoc ⟨_, by rw [Int.zero_add]⟩, hsub'⟩
          · exact EndC.same (by assumption) (by assumption) ld (fun p hp => hp) ⟨by rw [timesU_succ_f (by rw [hy]; assumption)]; exact hzs, hsub'⟩
        case done2 =>
          intro D6 h tk zs news₂ kz F₁ N₁ hlow6 hap pz7
          refine Classical.byContradiction ?_; intro kG0
          obtain ⟨hzs, hsub'⟩ := pz7
          have N6 : News _ _ _ ((D6, ({ cls := .type "list", data := .seq zs.toArray kz } : Obj)) :: B0) := newsOf N₁ fun p hp => (List.mem_cons.mp hp).elim (fun e => e ▸ List.mem_cons_self) fun e => .tail _ (hsub' p e)
          clear N₁ hsub' hap
          have hzl := timesU_len nm x ys.length
          have htm : ∀ q ∈ timesU nm x ys.length, ∃ j : Nat, q = (j : Int) ∧ j < ys.length ∧ nm[j]? = some x := fun q hq => timesU_mem hq
          have hzz : zs.length = (timesU nm x ys.length).length := hzs.length
          have htU : timesU nm x ys.length = timesU nm x nm.length := by rw [hyl, hnl]
          generalize htsd : timesU nm x ys.length = ts at *
          refine kG0 ?_
          clear kG0
          k_steps
          clear hR7 F7 N7 hlt
          rename_i F8
          refine' comp_localJ ?S ?hn ?hcell ?hkind ?hx ?hy ?hp (fun j zs2 l => AllV IsS zs2 (origU nm (ts.take j)) ∧ ∀ p ∈ (D6, ({ cls := .type "list", data := .seq zs.toArray kz } : Obj)) :: B0, p ∈ l) ⟨.nil, fun p hp => hp⟩ ?step3 ?done3
          case S => exact src_list rfl (by assumption) N6 List.mem_cons_self rfl rfl
          case hn => omega
          case hcell => decide
          case hkind => rfl
          case hx => rfl
          case hy => rfl
          case hp => rfl
          case step3 =>
            intro j v zs2 news₂ h tk C D' I' lead hj hvj pz8 ld hlow F₁ N₁
            refine Classical.byContradiction ?_; intro kG0
            obtain ⟨hz2, hsub'⟩ := pz8
            obtain ⟨q, hq, tq, rfl⟩ := hzs.get hvj
            obtain ⟨jj, rfl, hjl, hjx⟩ := htm q (List.mem_of_getElem? hq)
            obtain ⟨oC, hC, hb⟩ := ld.cm
            refine kG0 ?_
            clear kG0
            have hC' : (C, oC) ∈ lead ++ news₂ := List.mem_append.mpr (.inl hC)
            have up : ∀ p ∈ B0, p ∈ lead ++ news₂ := fun p hp => List.mem_append.mpr (.inr (hsub' p (.tail _ hp)))
            have bD' := up _ bD
            have bM' := up _ bM
            refine wpAny_tests_one ?_
            have hoq := origU_take (names := nm) hq
            cases jj with
            | zero =>
              replace hb : BindsN oC (Str.ofString "k") (.int 0 tq) := hb
              rw [if_neg (by decide), Option.toList_none, List.append_nil] at hoq
              k_steps
              exact EndC.same (by assumption) (by assumption) ld (fun p hp => hp) ⟨by rw [hoq]; exact hz2, hsub'⟩
            | succ jj =>
              refine Classical.byContradiction ?_; intro kG0
              obtain ⟨y, hy, ty, hyv⟩ : ∃ y, nm[jj]? = some y ∧ ∃ ty, ys[jj]? = some (.str y ty) := by
                have hlt : jj < ys.length := by omega
                obtain ⟨y, hy, ty, e⟩ := hys.get (List.getElem?_eq_getElem hlt)
                exact ⟨y, hy, ty, by rw [List.getElem?_eq_getElem hlt, e]⟩
              refine kG0 ?_
              clear kG0
              have hit : ItemIs ys (((jj + 1 : Nat) : Int) - 1) (.str y ty) := by rw [show ((jj + 1 : Nat) : Int) - 1 = (jj : Int) by omega]; exact ItemIs.pos hyv hyz
              rw [if_pos (by omega), show (((jj + 1 : Nat) : Int) - 1).toNat = jj by omega, hy] at hoq
              k_steps
              exact EndC.same (by assumption) (by assumption) ld (fun p hp => hp) ⟨by rw [hoq]; exact hz2.snoc ⟨_, rfl⟩, hsub'⟩
          case done3 =>
            intro D7 h tk zs2 news₂ kz2 F₁ N₁ hlow7 hap pz9
            refine Classical.byContradiction ?_; intro kG0
            obtain ⟨hz2, hsub'⟩ := pz9
            have N7 : News _ _ _ ((D7, ({ cls := .type "list", data := .seq zs2.toArray kz2 } : Obj)) :: (D6, ({ cls := .type "list", data := .seq zs.toArray kz } : Obj)) :: B0) := newsOf N₁ fun p hp => (List.mem_cons.mp hp).elim (fun e => e ▸ List.mem_cons_self) fun e => .tail _ (hsub' p e)
            clear N₁ hsub' hap N6
            rw [show ts.take zs.length = ts from by rw [hzz, List.take_length]] at hz2
            have hol := origU_len nm ts
            have hzz2 := hz2.length
            generalize hosd : origU nm ts = os at *
            refine kG0 ?_
            clear kG0
            k_steps
            rename_i dT h8 oT F8' N8' loT hsT fsT hiT fiT lT h9 F9 N9 tk9
            clear F8' N8'
            have lTall : ∀ p ∈ (D7, ({ cls := .type "list", data := .seq zs2.toArray kz2 } : Obj)) :: (D6, ({ cls := .type "list", data := .seq zs.toArray kz } : Obj)) :: B0, p.1 < dT := ofAllLt (l := (D7, _) :: (D6, _) :: B0) lT
            refine' for_src (S := ?S) ?hx ?hp (fun i m' l => m' (Str.ofString "table") = some (.ref dT) ∧ m' (Str.ofString "times") = some (.ref D6) ∧ m' (Str.ofString "origins") = some (.ref D7) ∧ m' (Str.ofString "due") = some (.ref d) ∧ (∀ p ∈ (D7, ({ cls := .type "list", data := .seq zs2.toArray kz2 } : Obj)) :: (D6, ({ cls := .type "list", data := .seq zs.toArray kz } : Obj)) :: B0, p ∈ l) ∧ ∃ o kvs, (dT, o) ∈ l ∧ o.IsDictOf (SK w) kvs ∧ AllKV IsI kvs (tabU os (os.take i))) ?h0 ?step4 ?done4
            case S => exact src_list rfl F9 N9 (by (k_extra "zz mem")) rfl rfl
            case hx => with_unfolding_all rfl
            case hp => rfl
            case h0 => exact ⟨rfl, rfl, rfl, rfl, fun p hp => .tail _ hp, oT, [], List.mem_cons_self, hsT, .nil⟩
            case step4 =>
              intro j v m₂ news₂ h tk own' I' hj hvj pz10 hnI' pz11 hown4 hlt4 Fg Ng
              refine Classical.byContradiction ?_; intro kG0
              obtain ⟨n1, n2, n3, n4, hsub4, o5, kvs5, mo5, dd5, hal5⟩ := pz10
              obtain ⟨oI', hoI'⟩ := pz11
              rw [map_put n1, map_put n2, map_put n3, map_put n4] at Fg
              obtain ⟨o, ho, to, rfl⟩ := hz2.get hvj
              refine kG0 ?_
              clear kG0
              have hTI : dT ≠ I' := hnI' _ mo5
              have e7 : (D7, ({ cls := .type "list", data := .seq zs2.toArray kz2 } : Obj)) ∈ own' ++ news₂ := List.mem_append.mpr (.inr (hsub4 _ List.mem_cons_self))
              have eT : (dT, o5) ∈ own' ++ news₂ := List.mem_append.mpr (.inr mo5)
              have hkz5 : kvs5.length ≤ 1000 := by have := hal5.length; have := tabU_len os (os.take j); have : (os.take j).length ≤ os.length := List.length_take_le' _ _; omega
              k_steps
              exact EndJ.put (by assumption) (by assumption) (fun p hp => (hown4 p hp).elim (fun e q => hTI (q.symm.trans e)) fun e q => by injection e with e; exact absurd lT.1 (by rw [e, q]; exact Nat.lt_irrefl _)) hTI hnI'
                ⟨rfl, rfl, rfl, rfl, fun p hp => mem_put (hsub4 p hp) (Nat.ne_of_lt (lTall p hp)), _, _, List.mem_cons_self, by assumption, by rw [tabU_take ho]; exact hal5.put ⟨_, rfl⟩⟩
            case done4 =>
              intro h tk m₂ news₂ Fg Ng pz12
              refine Classical.byContradiction ?_; intro kG0
              obtain ⟨n1, n2, n3, n4, hsub4, o5, kvs5, mo5, dd5, hal5⟩ := pz12
              refine kG0 ?_
              clear kG0
              rw [map_put n1, map_put n2, map_put n3, map_put n4] at Fg
              rw [show os.take zs2.length = os from by rw [hzz2, List.take_length]] at hal5
              have N10 : News _ _ _ ((dT, o5) :: (D7, ({ cls := .type "list", data := .seq zs2.toArray kz2 } : Obj)) :: (D6, ({ cls := .type "list", data := .seq zs.toArray kz } : Obj)) :: B0) := newsOf Ng fun p hp => (List.mem_cons.mp hp).elim (fun e => e ▸ mo5) fun e => hsub4 p e
              clear Ng hsub4 mo5 F9 N9
              k_steps
              refine' comp_localJ ?S ?hn ?hcell ?hkind ?hx ?hy ?hp (fun j zs3 l => AllV IsI zs3 (leftU ys.length (ts.take j)) ∧ ∀ p ∈ (dT, o5) :: (D7, ({ cls := .type "list", data := .seq zs2.toArray kz2 } : Obj)) :: (D6, ({ cls := .type "list", data := .seq zs.toArray kz } : Obj)) :: B0, p ∈ l) ⟨.nil, fun p hp => hp⟩ ?step6 ?done6
              case S => exact src_list rfl (by assumption) N10 (by (k_extra "zz mem")) rfl rfl
              case hn => omega
              case hcell => decide
              case hkind => rfl
              case hx => rfl
              case hy => rfl
              case hp => rfl
              case step6 =>
                intro j v zs3 news₃ h tk C D' I' lead hj hvj pz13 ld hlow F₁ N₁
                refine Classical.byContradiction ?_; intro kG0
                obtain ⟨hz3, hsub'⟩ := pz13
                obtain ⟨q, hq, tq, rfl⟩ := hzs.get hvj
                obtain ⟨jj, hjq, hjl, hjx⟩ := htm q (List.mem_of_getElem? hq)
                obtain ⟨oC, hC, hb⟩ := ld.cm
                refine kG0 ?_
                clear kG0
                have hC' : (C, oC) ∈ lead ++ news₃ := List.mem_append.mpr (.inl hC)
                have up : ∀ p ∈ B0, p ∈ lead ++ news₃ := fun p hp => List.mem_append.mpr (.inr (hsub' p (.tail _ (.tail _ (.tail _ hp)))))
                have bD' := up _ bD
                have bM' := up _ bM
                refine wpAny_tests_nil ?_
                simp only [if_true]
                k_steps
                exact EndC.same (by assumption) (by assumption) ld (fun p hp => hp) ⟨by rw [leftU_take hq]; exact hz3.snoc ⟨_, rfl⟩, hsub'⟩
              case done6 =>
                intro D8 h tk zs3 news₃ kz3 F₁ N₁ hlow8 hap pz14
                refine Classical.byContradiction ?_; intro kG0
                obtain ⟨hz3, hsub'⟩ := pz14
                refine kG0 ?_
                clear kG0
                have N8 : News _ _ _ ((D8, ({ cls := .type "list", data := .seq zs3.toArray kz3 } : Obj)) :: (dT, o5) :: (D7, ({ cls := .type "list", data := .seq zs2.toArray kz2 } : Obj)) :: (D6, ({ cls := .type "list", data := .seq zs.toArray kz } : Obj)) :: B0) := newsOf N₁ fun p hp => (List.mem_cons.mp hp).elim (fun e => e ▸ List.mem_cons_self) fun e => .tail _ (hsub' p e)
                clear N₁ hsub' hap N10
                rw [show ts.take zs.length = ts from by rw [hzz, List.take_length]] at hz3
                have hzzz : zs.length ≤ 1000 := by omega
                k_steps
                exact due_last (st := ⟨1, (zs.length : Int), ts.sum, (leftU ys.length ts).sum, tabU os os⟩) (by assumption) (by assumption) (by assumption) (fun p hp => Heap.lt_size ((by assumption : News _ _ _ _) p hp).1) (by (k_extra "zz mem")) (fun p hp => by (k_extra "zz mem")) (fun p hp => lTall p (.tail _ (.tail _ hp))) dd5 loT hal5
                  (by unfold dueStat; rw [← htU, hosd, hzz, show nm.length = ys.length by omega]) hx hl hal bd bown hoI hownd brest bN hoN' hnI hcI hdI hc2' rfl hsub3 mD hD2' mM hM2' htl
      · k_steps
        refine due_turn (tlnew := []) (by assumption) (by assumption) bown (fun p a b _ => brest p a b) bN hoN' bd dd (List.forall_mem_nil _) ?_ hnI hcI hdI hc2' rfl hsub3 mD hD2' mM hM2' htl
        rw [dueUp_succ hx]
        unfold dueOne
        rw [hl]
        exact hal
    case done =>
      intro h tk m' l Fg Ng pz15
      refine Classical.byContradiction ?_; intro kG0
      obtain ⟨m1, hsub, mD, mM, _, o₂, kvs₂, tl₂, mo, dd, htl, hal⟩ := pz15
      refine kG0 ?_
      clear kG0
      rw [map_put m1] at Fg
      rw [hyl] at hal
      k_steps
      refine hret _ ((d, o₂) :: tl₂) _ _ (by assumption) (newsOf (by assumption) (fun p hp => ?_)) (fun q hq p hp => ?_) ⟨d, o₂, kvs₂, rfl, List.mem_cons_self, dd, lo4, by unfold dueF; rw [hnm]; exact hal.mono fun _ _ x => x.mono fun p hp => .tail _ hp⟩
      · rcases List.mem_append.mp hp with hp | hp
        · rcases List.mem_cons.mp hp with rfl | hp
          · exact mo
          · exact (htl p hp).1
        · exact hsub p hp
      · rcases List.mem_cons.mp hp with rfl | hp
        · exact hld q hq
        · exact (htl p hp).2.2.2 q hq
example : True := by w_top off; trivial
noncomputable def lawParts : List Stmt × Scope := match PySem.Challenge.pw_zn0008_01.main.body.getLast? with
  | some (.FunctionDef _ _ body _ _ _ scope _ _ _) => (body, scope)
  | _ => ([], ⟨.function, [], false, false, []⟩)
noncomputable def lawS (n : Nat) : Stmt := (lawParts.1[n]?).getD (.Pass ⟨0, 0, 0, 0⟩)
noncomputable def lawScope : Scope := lawParts.2
/-- the law's own frame -/
noncomputable abbrev lawE (sc : Scope) (L fa : Addr) (cd : Value) : Env := envOfC (Str.ofString "law") sc L fa cd
theorem law_open {w : World} {L fa : Addr} {cd : Value} {Q : Flow → Shared → Prop} {E : Value → Shared → Prop} {s : Shared} {st st' : Stmt} {sc' : Scope} (hB : st = st') (hs : lawScope = sc')
    (h : wpAny (model PySem.Challenge.rw_zn0008_01.row.prog w) (callerA.deeper (lawE sc' L fa cd)) (exec st' (lawE sc' L fa cd)) Q E s) :
    wpAny (model PySem.Challenge.rw_zn0008_01.row.prog w) (callerA.deeper (lawE lawScope L fa cd)) (exec st (lawE lawScope L fa cd)) Q E s := by subst hB hs; exact h
/-- what stands between the law's statements: its cells, and the objects X that the data are told over -/
structure LSt (L : Addr) (news X : List (Addr × Obj)) (vs : Nat → Option Value) : Prop where
  hX : ∀ p ∈ X, p ∈ news ∧ @LT.lt Nat _ (L + 7) p.1
  c1 : ∃ o, (L + 1, o) ∈ news ∧ o.data = .cell (vs 1)
  c2 : ∃ o, (L + 1 + 1, o) ∈ news ∧ o.data = .cell (vs 2)
  c3 : ∃ o, (L + 1 + 1 + 1, o) ∈ news ∧ o.data = .cell (vs 3)
  c4 : ∃ o, (L + 1 + 1 + 1 + 1, o) ∈ news ∧ o.data = .cell (vs 4)
  c5 : ∃ o, (L + 1 + 1 + 1 + 1 + 1, o) ∈ news ∧ o.data = .cell (vs 5)
  c6 : ∃ o, (L + 1 + 1 + 1 + 1 + 1 + 1, o) ∈ news ∧ o.data = .cell (vs 6)
  c7 : ∃ o, (L + 1 + 1 + 1 + 1 + 1 + 1 + 1, o) ∈ news ∧ o.data = .cell (vs 7)
theorem LSt.grow {L : Addr} {news news' X : List (Addr × Obj)} {vs : Nat → Option Value} (h : LSt L news X vs) (hs : ∀ p ∈ news, p ∈ news') : LSt L news' X vs :=
  ⟨fun p hp => ⟨hs p (h.hX p hp).1, (h.hX p hp).2⟩, h.c1.imp fun _ q => ⟨hs _ q.1, q.2⟩, h.c2.imp fun _ q => ⟨hs _ q.1, q.2⟩, h.c3.imp fun _ q => ⟨hs _ q.1, q.2⟩, h.c4.imp fun _ q => ⟨hs _ q.1, q.2⟩,
    h.c5.imp fun _ q => ⟨hs _ q.1, q.2⟩, h.c6.imp fun _ q => ⟨hs _ q.1, q.2⟩, h.c7.imp fun _ q => ⟨hs _ q.1, q.2⟩⟩
theorem LSt.withX {L : Addr} {news X X' : List (Addr × Obj)} {vs : Nat → Option Value} (h : LSt L news X vs) (hX : ∀ p ∈ X', p ∈ news ∧ @LT.lt Nat _ (L + 7) p.1) : LSt L news X' vs := { h with hX := hX }
theorem LSt.above {L : Addr} {news X : List (Addr × Obj)} {vs : Nat → Option Value} (h : LSt L news X vs) {D : Nat} (hD : ∀ p ∈ news, p.1 < D) : L + 7 < D := by
  refine Classical.byContradiction ?_; intro kG0
  obtain ⟨o, m, _⟩ := h.c7
  refine kG0 ?_
  clear kG0
  have := @id (@LT.lt Nat _ (L + 1 + 1 + 1 + 1 + 1 + 1 + 1) D) (hD _ m)
  omega
/-- cell number i gets a value -/
theorem LSt.put {L c : Addr} {news X : List (Addr × Obj)} {vs : Nat → Option Value} {o' : Obj} {v : Option Value} (h : LSt L news X vs) (i : Nat) (hi : 1 ≤ i ∧ i ≤ 7) (hc : c = L + i) (hd : o'.data = .cell v) :
    LSt L ((c, o') :: rmA c news) X (fun j => if j = i then v else vs j) := by
  have cell : ∀ (a : Addr) (j : Nat), a = L + j → j ≤ 7 → (∃ o, (a, o) ∈ news ∧ o.data = .cell (vs j)) → ∃ o, (a, o) ∈ (c, o') :: rmA c news ∧ o.data = .cell (if j = i then v else vs j) := by
    intro a j ha hj ⟨o, m, d⟩
    by_cases e : j = i
    · subst e
      rw [if_pos rfl]
      exact ⟨o', by rw [ha, ← hc]; exact List.mem_cons_self, hd⟩
    · rw [if_neg e]
      exact ⟨o, mem_put m (neN (by show @Ne Nat a c; rw [ha, hc]; omega)), d⟩
  exact ⟨fun p hp => ⟨mem_put (h.hX p hp).1 (neN (by have := (h.hX p hp).2; show @Ne Nat p.1 c; rw [hc]; omega)), (h.hX p hp).2⟩,
    cell _ 1 rfl (by decide) h.c1, cell _ 2 rfl (by decide) h.c2, cell _ 3 rfl (by decide) h.c3, cell _ 4 rfl (by decide) h.c4, cell _ 5 rfl (by decide) h.c5, cell _ 6 rfl (by decide) h.c6, cell _ 7 rfl (by decide) h.c7⟩
theorem book_use {w : World} {ws : List Int} {t1 : Tok} (h1 : ws.length ≤ 20)
    {mean : ExcName → Option Value} {mg mb : Str → Option Value} {A₀ A : Around} {env : Env} {outer : List Env} {base h₀ : Heap} {L : Addr} {m : Str → Option Value} {news : List (Addr × Obj)} {s : Shared} {Q E : Value → Shared → Prop}
    (a1 : A.handled = none) (a2 : A.depth ≤ 330) (a3 : A.units ≤ 150) (a4 : A.frames = some (env :: outer)) (a5 : env.frame = some L) (a6 : env.scope.kind = .function)
    (B : Below A₀ base outer h₀) (F : Fr h₀ L s.heap m) (X : (lay.heap_1 w.params).In h₀) (N : News h₀ L s.heap news) (T : Top V loo mean mg mb h₀)
    (k : ∀ r tl h' tk', Fr h₀ L h' m → News h₀ L h' (tl ++ news) → (∀ q ∈ news, ∀ p ∈ tl, q.1 < p.1) → BookIn w tl r (bookF (ws.map cOf)) → Q r { s with heap := h', toks := tk' }) :
    wpAny (model PySem.Challenge.rw_zn0008_01.row.prog w) A (call (.ref 170) [.str (wordS ws) t1]) Q E s :=
  (book_tell w (wordS ws) (by rw [show (wordS ws).cps.size = ws.length from wordS_len ws]; exact h1)).use a1 a2 a3 a4 a5 a6 B F X N T ⟨t1, rfl⟩ k
theorem led_use {w : World} {ws : List Int} {kvs : List (Str × Value)} (h1 : ws.length ≤ 20)
    {mean : ExcName → Option Value} {mg mb : Str → Option Value} {A₀ A : Around} {env : Env} {base h₀ : Heap} {L : Addr} {m : Str → Option Value} {news : List (Addr × Obj)} {s : Shared} {Q E : Value → Shared → Prop}
    {d : Addr} {o : Obj} {tw : Tok} (a1 : A.handled = none) (a2 : A.depth ≤ 330) (a3 : A.units ≤ 200) (a4 : A.frames = some [env]) (a5 : env.frame = some L) (a6 : env.scope.kind = .function)
    (B : Below A₀ base [] h₀) (F : Fr h₀ L s.heap m) (X : (lay.heap_1 w.params).In h₀) (N : News h₀ L s.heap news) (T : Top V loo mean mg mb h₀) (XB : (lay.heap_1 w.params).In base) (TB : Top V loo mean mg mb base)
    (md : (d, o) ∈ news) (hd1 : o.IsDictOf (SK w) kvs) (lo : (d == sysModules) = false)
    (k : ∀ t h' tk', Fr h₀ L h' m → News h₀ L h' news → Q (.str (ledF kvs (ws.map cOf)) t) { s with heap := h', toks := tk' }) :
    wpAny (model PySem.Challenge.rw_zn0008_01.row.prog w) A (call (.ref 163) [.ref d, .str (wordS ws) tw]) Q E s :=
  led_tell w kvs (wordS ws) (by rw [show (wordS ws).cps.size = ws.length from wordS_len ws]; exact h1) mean mg mb A₀ A env base h₀ L m news s Q E d o tw a1 a2 a3 a4 a5 a6 X XB TB B F N T md hd1 lo k
theorem heads_use {w : World} {ws : List Int} {t1 : Tok} (h1 : ws.length ≤ 20 ∧ Four ws)
    {mean : ExcName → Option Value} {mg mb : Str → Option Value} {A₀ A : Around} {env : Env} {outer : List Env} {base h₀ : Heap} {L : Addr} {m : Str → Option Value} {news : List (Addr × Obj)} {s : Shared} {Q E : Value → Shared → Prop}
    (a1 : A.handled = none) (a2 : A.depth ≤ 330) (a3 : A.units ≤ 150) (a4 : A.frames = some (env :: outer)) (a5 : env.frame = some L) (a6 : env.scope.kind = .function)
    (B : Below A₀ base outer h₀) (F : Fr h₀ L s.heap m) (X : (lay.heap_1 w.params).In h₀) (N : News h₀ L s.heap news) (T : Top V loo mean mg mb h₀)
    (k : ∀ r tl h' tk', Fr h₀ L h' m → News h₀ L h' (tl ++ news) → (∀ q ∈ news, ∀ p ∈ tl, q.1 < p.1) → HeadsIn tl r (headsF ws) → Q r { s with heap := h', toks := tk' }) :
    wpAny (model PySem.Challenge.rw_zn0008_01.row.prog w) A (call (.ref 177) [.str (wordS ws) t1]) Q E s :=
  (heads_tell w ws h1.1 h1.2).use a1 a2 a3 a4 a5 a6 B F X N T ⟨t1, rfl⟩ k
theorem due_use {w : World} {hs : List (List Int)} {v : Value} (h1 : hs.length ≤ 20 ∧ ∀ h ∈ hs, h.length ≤ 20 ∧ Four h)
    {mean : ExcName → Option Value} {mg mb : Str → Option Value} {A₀ A : Around} {env : Env} {outer : List Env} {base h₀ : Heap} {L : Addr} {m : Str → Option Value} {news : List (Addr × Obj)} {s : Shared} {Q E : Value → Shared → Prop}
    (a1 : A.handled = none) (a2 : A.depth ≤ 330) (a3 : A.units ≤ 150) (a4 : A.frames = some (env :: outer)) (a5 : env.frame = some L) (a6 : env.scope.kind = .function)
    (B : Below A₀ base outer h₀) (F : Fr h₀ L s.heap m) (X : (lay.heap_1 w.params).In h₀) (N : News h₀ L s.heap news) (T : Top V loo mean mg mb h₀) (R : HeadsIn news v hs)
    (k : ∀ r tl h' tk', Fr h₀ L h' m → News h₀ L h' (tl ++ news) → (∀ q ∈ news, ∀ p ∈ tl, q.1 < p.1) → BookIn w tl r (dueF hs) → Q r { s with heap := h', toks := tk' }) :
    wpAny (model PySem.Challenge.rw_zn0008_01.row.prog w) A (call (.ref 187) [v]) Q E s :=
  (due_tell w hs h1.1 h1.2).use a1 a2 a3 a4 a5 a6 B F X N T ⟨v, rfl, R⟩ k
example : True := by
  k_with "call ref" => (k_here; (with_reducible show wpAny _ _ (call (Value.ref 170) _) _ _ _); k_dflt (refine' book_use ?h1 ?a1 ?a2 ?a3 ?a4 ?a5 ?a6 ?kB ?kF ?kX ?kN ?kT ?_; (case a1 => exact rfl); (case a2 => exact Nat.le_of_ble_eq_true rfl); (case a3 => exact Nat.le_of_ble_eq_true rfl); (case a4 => exact rfl); (case a5 => exact rfl); (case a6 => exact rfl); (case kB => k_asm); (case kF => k_asm); (case kX => k_asm); (case kN => k_asm); (case kT => k_asm); (case h1 => first | assumption | omega); k_whole); intro _ _ _ _ _ _ _ _; (try dsimp only); (try k_fold))
  trivial
example : True := by
  k_with "call ref" => (k_here; (with_reducible show wpAny _ _ (call (Value.ref 163) _) _ _ _); k_dflt (refine' led_use ?h1 ?a1 ?a2 ?a3 ?a4 ?a5 ?a6 ?kB ?kF ?kX ?kN ?kT ?XB ?TB ?md ?hd1 ?lo ?_; (case a1 => exact rfl); (case a2 => exact Nat.le_of_ble_eq_true rfl); (case a3 => exact Nat.le_of_ble_eq_true rfl); (case a4 => exact rfl); (case a5 => exact rfl); (case a6 => exact rfl); (case kB => k_asm); (case kF => k_asm); (case kX => k_asm); (case kN => k_asm); (case kT => k_asm); (case XB => k_asm); (case TB => k_asm); (case md => first | assumption | (k_extra "zz mem")); (case hd1 => assumption); (case lo => assumption); (case h1 => first | assumption | omega); k_whole); intro _ _ _ _ _; (try dsimp only); (try k_fold))
  trivial
example : True := by
  k_with "call ref" => (k_here; (with_reducible show wpAny _ _ (call (Value.ref 177) _) _ _ _); k_dflt (refine' heads_use ?h1 ?a1 ?a2 ?a3 ?a4 ?a5 ?a6 ?kB ?kF ?kX ?kN ?kT ?_; (case a1 => exact rfl); (case a2 => exact Nat.le_of_ble_eq_true rfl); (case a3 => exact Nat.le_of_ble_eq_true rfl); (case a4 => exact rfl); (case a5 => exact rfl); (case a6 => exact rfl); (case kB => k_asm); (case kF => k_asm); (case kX => k_asm); (case kN => k_asm); (case kT => k_asm); (case h1 => assumption); k_whole); intro _ _ _ _ _ _ _ _; (try dsimp only); (try k_fold))
  trivial
example : True := by
  k_with "call ref" => (k_here; (with_reducible show wpAny _ _ (call (Value.ref 187) _) _ _ _); k_dflt (refine' due_use ?h1 ?a1 ?a2 ?a3 ?a4 ?a5 ?a6 ?kB ?kF ?kX ?kN ?kT ?kR ?_; (case a1 => exact rfl); (case a2 => exact Nat.le_of_ble_eq_true rfl); (case a3 => exact Nat.le_of_ble_eq_true rfl); (case a4 => exact rfl); (case a5 => exact rfl); (case a6 => exact rfl); (case kB => k_asm); (case kF => k_asm); (case kX => k_asm); (case kN => k_asm); (case kT => k_asm); (case kR => first | assumption | (refine SeqIn.mono (by assumption) ?_ (fun _ _ x => x.mono ?_) <;> (intro _ _; (k_extra "zz mem")))); (case h1 => assumption); k_whole); intro _ _ _ _ _ _ _ _; (try dsimp only); (try k_fold))
  trivial
example : True := by w_top off; trivial
theorem SeqIn.get {α : Type} {T : String} {R : List (Addr × Obj) → Value → α → Prop} {news : List (Addr × Obj)} {a : Addr} {as : List α} (h : SeqIn T R news (.ref a) as) : ∃ k vs, (a, ({ cls := .type T, data := .seq (List.toArray vs) k } : Obj)) ∈ news ∧ AllV (R news) vs as := by
  refine Classical.byContradiction ?_; intro kG0
  obtain ⟨a', k, vs, e, hm, hc⟩ := h
  refine kG0 ?_
  clear kG0
  injection e with e; subst e
  exact ⟨k, vs, hm, hc⟩
theorem stmt_books {w : World} {mean : ExcName → Option Value} {mg mb : Str → Option Value} {h₀ : Heap} {L fa W : Addr} {cd : Value} {m : Str → Option Value} {news Xs : List (Addr × Obj)} {vs : Nat → Option Value} {s : Shared} {Q : Flow → Shared → Prop} {E : Value → Shared → Prop} {wss : List (List Int)}
    (hw : wss.length ≤ 20 ∧ ∀ ws ∈ wss, ws.length ≤ 20) (X : (lay.heap_1 w.params).In h₀) (T : Top V loo mean mg mb h₀) (B : Below callerA h₀ [] h₀) (F : Fr h₀ L s.heap m) (N : News h₀ L s.heap news)
    (S : LSt L news Xs vs) (hm : m (Str.ofString "words") = some (.ref W)) (hW : StrsIn Xs (.ref W) (wss.map wordS))
    (k : ∀ h' tk' news' Xs' b, Fr h₀ L h' m → News h₀ L h' news' → LSt L news' Xs' (fun j => if j = 1 then some (.ref b) else vs j) → (∀ p ∈ Xs, p ∈ Xs') → SeqIn "list" (BookIn w) Xs' (.ref b) (wss.map fun ws => bookF (ws.map cOf)) → Q .next { s with heap := h', toks := tk' }) :
    wpAny (model PySem.Challenge.rw_zn0008_01.row.prog w) (callerA.deeper (lawE lawScope L fa cd)) (exec (lawS 3) (lawE lawScope L fa cd)) Q E s := by
  refine law_open (st' := PySem.Stmt.Assign _ _ _) (sc' := ⟨_, _, _, _, _⟩) rfl rfl ?_
  refine Classical.byContradiction ?_; intro kG0
  obtain ⟨kw, vw, mW, hvw⟩ := hW.get
  refine kG0 ?_
  clear kG0
  have mW' := (S.hX _ mW).1
  revert X; k_fill; intro X
  have hml := map_put hm
  rw [hml] at F
  k_steps
  refine' comp_evalJ ?S ?hn ?hcell ?hkind ?hx (fun i ys l => (∀ p ∈ news, p ∈ l) ∧ ∃ Y, (∀ p ∈ Y, p ∈ l ∧ @LT.lt Nat _ (L + 7) p.1) ∧ AllV (BookIn w Y) ys ((wss.take i).map fun ws => bookF (ws.map cOf))) ⟨fun p hp => hp, [], List.forall_mem_nil _, .nil⟩ ?step ?done
  case S => exact src_list rfl F N mW' rfl rfl
  case hn => have := hvw.length; rw [List.length_map] at this; omega
  case hcell => decide
  case hkind => rfl
  case hx => rfl
  case step =>
    intro i v ys news₁ h tk C D I lead hi' hv pz1 ld hlow F₁ N₁
    refine Classical.byContradiction ?_; intro kG0
    obtain ⟨hsub, Y, hY, hys⟩ := pz1
    obtain ⟨x, hx, t, rfl⟩ := hvw.get hv
    rw [List.getElem?_map] at hx
    obtain ⟨ws, hws, rfl⟩ := Option.map_eq_some_iff.mp hx
    have hwl := hw.2 ws (List.mem_of_getElem? hws)
    obtain ⟨oC, hC, hb⟩ := ld.cm
    have hC' : (C, oC) ∈ lead ++ news₁ := List.mem_append.mpr (.inl hC)
    obtain ⟨o7, m7, _⟩ := S.c7
    refine kG0 ?_
    clear kG0
    have m7' := List.mem_append.mpr (.inr (hsub _ m7) : _ ∈ lead ∨ _)
    refine wpAny_tests_nil ?_
    simp only [if_true]
    k_steps
    rename_i r tl h9 tk9 F9 N9 ord out
    exact EndC.grow F9 N9 ord ld (fun p hp => hp) ⟨fun p hp => List.mem_append.mpr (.inr (hsub p hp)), tl ++ Y, fun p hp => (List.mem_append.mp hp).elim (fun e => ⟨List.mem_append.mpr (.inl e), ord _ m7' p e⟩) (fun e => ⟨List.mem_append.mpr (.inr (hY p e).1), (hY p e).2⟩),
      by rw [takeMap_snoc _ hws]; exact (hys.mono fun _ _ x => x.mono fun p hp => List.mem_append.mpr (.inr hp)).snoc (out.mono fun p hp => List.mem_append.mpr (.inl hp))⟩
  case done =>
    intro D h tk ys news' kD F₁ N₁ hlow hap pz2
    refine Classical.byContradiction ?_; intro kG0
    obtain ⟨hsub, Y, hY, hys⟩ := pz2
    rw [show wss.take vw.length = wss from by rw [hvw.length, List.length_map, List.take_length]] at hys
    have S₁ : LSt L ((D, ({ cls := .type "list", data := .seq ys.toArray kD } : Obj)) :: news') ((D, ({ cls := .type "list", data := .seq ys.toArray kD } : Obj)) :: (Y ++ Xs)) vs :=
      (S.grow fun p hp => .tail _ (hsub p hp)).withX fun p hp => by
        rcases List.mem_cons.mp hp with rfl | hp
        · exact ⟨List.mem_cons_self, S.above hlow⟩
        · rcases List.mem_append.mp hp with hp | hp
          · exact ⟨.tail _ (hY p hp).1, (hY p hp).2⟩
          · exact ⟨.tail _ (hsub p (S.hX p hp).1), (S.hX p hp).2⟩
    obtain ⟨o1, m1, d1⟩ := S₁.c1
    refine kG0 ?_
    clear kG0
    k_steps
    refine cell_store (c := L + 1) (o := o1) F₁ N₁ (by with_unfolding_all rfl) m1 d1 rfl (by with_unfolding_all rfl) fun h' o' F₂ N₂ d₂ => ?_
    rw [← hml] at F₂
    exact k _ _ _ _ D F₂ N₂ (S₁.put 1 (by decide) rfl d₂) (fun p hp => .tail _ (List.mem_append.mpr (.inr hp))) ⟨D, kD, ys, rfl, List.mem_cons_self, hys.mono fun _ _ x => x.mono fun p hp => .tail _ (List.mem_append.mpr (.inl hp))⟩
example : True := by w_top off; trivial
/-- an element's end, apart from all of the loop's own things -/
inductive EndK (h₀ : Heap) (L : Addr) (m : Str → Option Value) (lead : List (Addr × Obj)) (J : List (Addr × Obj) → Prop) (as : List Addr) (s : Shared) : Shared → Prop
  | mk {h' : Heap} {tk' : Nat} {lall news' : List (Addr × Obj)} : Fr h₀ L h' m → News h₀ L h' lall → (∀ p ∈ lead, p ∈ lall) → (∀ p ∈ news', p ∈ lall) → (∀ p ∈ news', ∀ a ∈ as, p.1 ≠ a) → J news' →
      EndK h₀ L m lead J as s { s with heap := h', toks := tk' }
section
variable {prog : Program} {w : World} {A : Around} {E : Value → Shared → Prop} {s : Shared} {env : Env} {x : Str} {px : Pos} {h₀ : Heap} {L : Addr} {m : Str → Option Value} {news : List (Addr × Obj)} {Q : Value → Shared → Prop}
  {elt iter : PySem.Expr} {scope : Scope} {cl : List (Str × Addr)} {pos : Pos}
theorem newEnv_K {a b : Str} {globals : Addr} {qual : Str} {R : Env → Shared → Prop} (hnm : scope.names = [(a, .local), (x, .cell), (b, .free)])
    (h : R { scope, locals := s.heap.objs.size, globals, cells := (x, s.heap.objs.size + 1) :: cl, qual, func := none, code := env.code, frame := env.frame, builtins := env.builtins }
      { s with heap := (s.heap.push { cls := .type "dict", data := .dict #[] }).push { cls := .type "cell", data := .cell none } }) :
    wpAny (model prog w) A (newFunctionEnv scope globals cl [] qual none .none (some env)) R E s := by
  simp only [newFunctionEnv, Option.isSome_some, if_true]
  refine wpAny_bind (wpAny_alloc ?_)
  rw [hnm]
  simp only [List.forIn_cons, List.forIn_nil]
  refine wpAny_bind ?_
  refine wpAny_bind ?_
  refine wpAny_pure ?_
  refine wpAny_bind ?_
  refine wpAny_bind (wpAny_alloc ?_)
  refine wpAny_pure ?_
  refine wpAny_bind (wpAny_pure (wpAny_pure ?_))
  refine wpAny_bind (wpAny_pure (wpAny_pure ?_))
  have e : (s.heap.push { cls := .type "dict", data := .dict #[] }).objs.size = s.heap.objs.size + 1 := Heap.size_push ..
  simpa [e] using h
noncomputable abbrev StepK (prog : Program) (w : World) (A : Around) (elt : PySem.Expr) (x : Str) (scope : Scope) (cl : List (Str × Addr)) (env : Env) (h₀ : Heap) (L : Addr) (m : Str → Option Value) (news : List (Addr × Obj)) (s : Shared) (n : Nat) (P : Nat → Value → Prop) (J : Nat → List Value → List (Addr × Obj) → Prop) : Prop :=
  ∀ i v ys news₁ h tk C D I K oK lead, i < n → P i v → J i ys news₁ → (∀ p ∈ news₁, ∀ a ∈ [I, C, D, K], p.1 ≠ a) → (∀ a ∈ [I, C, D, K], ∃ o, (a, o) ∈ lead) → (K, oK) ∈ lead → oK.data = .cell (some v) → (∀ p ∈ news, p.1 < D ∧ p.1 < C ∧ p.1 < I) → Fr h₀ L h m → News h₀ L h (lead ++ news₁) →
      wpAny (model prog w) A (eval elt (compEnvC scope ((x, K) :: cl) C env)) (fun y s₄ => EndK h₀ L m lead (J (i + 1) (ys ++ [y])) [I, C, D, K] s s₄) (fun _ _ => False) { s with heap := h, toks := tk }
inductive CompInvK (h₀ : Heap) (L C D I K : Addr) (m : Str → Option Value) (n : Nat) (St : Nat → Heap → Prop) (J : Nat → List Value → List (Addr × Obj) → Prop) (s : Shared) : Nat → Shared → Prop
  | mk {h' : Heap} {tk : Nat} {ys : List Value} {news' : List (Addr × Obj)} {i : Nat} {mC : Str → Option Value} {oK : Obj} {vK : Option Value} : St i h' → Fr h₀ L h' m → News h₀ L h' news' → (∀ p ∈ news', ∀ a ∈ [I, C, D, K], p.1 ≠ a) → h'.PlainList D ys.toArray → h'.Ns C mC → h'.get? K = some oK → oK.data = .cell vK → J i ys news' → i ≤ n → ys.length ≤ i →
      CompInvK h₀ L C D I K m n St J s (n + 1 - i) { s with heap := h', toks := tk }
theorem comp_K {n : Nat} {P : Nat → Value → Prop} {St : Nat → Heap → Prop} {I : Addr} {fp : List Addr} {a b : Str} (W : Walks prog w A I fp [I] n P St) (hIs : ∀ i h, St i h → ∃ o, h.get? I = some o) (hn : n ≤ 1000)
    (hnm : scope.names = [(a, .local), (x, .cell), (b, .free)]) (hax : (x == a) = false) (hkind : scope.kind = .function)
    (hLf : L ∉ fp) (hI0 : h₀.get? I = none) (hfp : ∀ b ∈ fp, b < s.heap.objs.size) (hnI : ∀ p ∈ news, p.1 < I) (hst : St 0 s.heap) (F : Fr h₀ L s.heap m) (N : News h₀ L s.heap news)
    (J : Nat → List Value → List (Addr × Obj) → Prop) (h0 : J 0 [] news) (step : StepK prog w A elt x scope cl env h₀ L m news s n P J)
    (done : ∀ D h tk ys news' k, Fr h₀ L h m → News h₀ L h ((D, ({ cls := .type "list", data := .seq ys.toArray k } : Obj)) :: news') → (∀ p ∈ news, p.1 < D) → (∀ p ∈ news', p.1 ≠ D) → J n ys news' → Q (.ref D) { s with heap := h, toks := tk }) :
    CompAt prog w A elt iter x px [] scope cl pos env none Q E (.ref I) s := by
  refine wpAny_newObj_type (newEnv_K hnm ?_)
  dsimp only
  generalize hH2 : s.heap.push { cls := .type "list", dict := none, data := .seq ([] : List Value).toArray } = H2
  have hC : H2.objs.size = s.heap.objs.size + 1 := by rw [← hH2, Heap.size_push]
  generalize hH4 : (H2.push { cls := .type "dict", data := .dict #[] }).push { cls := .type "cell", data := .cell none } = h₁
  have oldH : ∀ b o, b < H2.objs.size → H2.get? b = some o → h₁.get? b = some o := fun b o _ e => hH4 ▸ Heap.get?_push_of_some _ (Heap.get?_push_of_some _ e)
  have hNs : h₁.Ns H2.objs.size (fun _ => none) := hH4 ▸ (Heap.Ns.new H2 (.type "dict")).at' fun o e => Heap.get?_push_of_some _ e
  have hKo : h₁.get? (H2.objs.size + 1) = some { cls := .type "cell", data := .cell none } := by
    rw [← hH4]
    have e : (H2.push { cls := .type "dict", data := .dict #[] }).objs.size = H2.objs.size + 1 := Heap.size_push ..
    rw [← e]; exact Heap.get?_push_size _ rfl
  have hDo : H2.get? s.heap.objs.size = some { cls := .type "list", data := .seq #[] } := hH2 ▸ Heap.get?_push_size _ rfl
  generalize hDd : s.heap.objs.size = D at *
  generalize hCd : H2.objs.size = C at *
  generalize hKd : C + 1 = K at *
  have hDCl : @LT.lt Nat _ D C := hC ▸ Nat.lt_succ_self D
  have hCKl : @LT.lt Nat _ C K := hKd ▸ Nat.lt_succ_self C
  have hDKl : @LT.lt Nat _ D K := Nat.lt_trans hDCl hCKl
  have hDC : @Ne Nat D C := Nat.ne_of_lt hDCl
  have hDK : @Ne Nat D K := Nat.ne_of_lt hDKl
  have hCK : @Ne Nat C K := Nat.ne_of_lt hCKl
  have hLD : @LT.lt Nat _ L D := Nat.lt_of_lt_of_eq F.ns.lt hDd
  have hLC : @LT.lt Nat _ L C := Nat.lt_trans hLD hDCl
  have hLK : @LT.lt Nat _ L K := Nat.lt_trans hLD hDKl
  have hLa := @id (@LE.le Nat _ _ L) F.above
  have hD0 : h₀.get? D = none := Heap.get?_none_of_le (Nat.le_of_lt (Nat.lt_of_le_of_lt hLa hLD))
  have hC0 : h₀.get? C = none := Heap.get?_none_of_le (Nat.le_of_lt (Nat.lt_of_le_of_lt hLa hLC))
  have hK0 : h₀.get? K = none := Heap.get?_none_of_le (Nat.le_of_lt (Nat.lt_of_le_of_lt hLa hLK))
  have hlt3 : ∀ b ∈ fp, @LT.lt Nat _ b D := hfp
  have hDf : D ∉ fp := fun hm => absurd (hfp _ hm) (Nat.lt_irrefl _)
  have hCf : C ∉ fp := fun hm => Nat.lt_asymm (hlt3 _ hm) hDCl
  have hKf : K ∉ fp := fun hm => Nat.lt_asymm (hlt3 _ hm) hDKl
  have hIf : I ∈ fp := W.sub I (List.mem_singleton.mpr rfl)
  have hIlt : @LT.lt Nat _ I D := hfp _ hIf
  have hLI : L ≠ I := fun e => hLf (e ▸ hIf)
  have hlow : ∀ p ∈ news, @LT.lt Nat _ p.1 D := fun p hp => Nat.lt_of_lt_of_eq (Heap.lt_size (N p hp).1) hDd
  have old : ∀ b o, s.heap.get? b = some o → h₁.get? b = some o := fun b o e => by
    have := @id (@LT.lt Nat _ b _) (Heap.lt_size e)
    exact oldH b o (ltN (by omega)) (hH2 ▸ Heap.get?_push_of_some _ e)
  have hacc : h₁.PlainList D #[] := ⟨_, oldH _ _ (ltN (by omega)) hDo⟩
  have hst₁ : St 0 h₁ := W.frame _ _ _ hst fun b _ o e => old b o e
  have F₁ : Fr h₀ L h₁ m := ⟨F.ns.at' fun o e => old _ o e, fun b o e => old b o (F.keep b o e), F.above⟩
  have N₁ : News h₀ L h₁ news := fun p hp => ⟨old _ _ (N p hp).1, (N p hp).2⟩
  have hkx : (compEnvC scope ((x, K) :: cl) C env).kindOf x = some .cell := by
    show List.lookup x (relabel scope env).names = _
    unfold relabel
    rw [hnm]
    simp [List.lookup_cons, hax]
  have loop : ∀ s₃ : Shared, s₃ = { s with heap := h₁ } →
      codeAny (model prog w) A (.compLoop (.ListComp elt [⟨.Name x px, iter, [], 0⟩] scope pos) 0 (.ref I) (.ref D) (compEnvC scope ((x, K) :: cl) C env))
        (compPost (model prog w) A E none Q (.ref D) C) s₃ := by
    rintro s₃ rfl
    refine codeAny_compLoop_tests
      (CompInvK h₀ L C D I K m n St J s) ?_ (n + 1)
      (.mk (ys := []) (i := 0) hst₁ F₁ N₁ (fun p hp a ha => ?_) hacc hNs hKo rfl h0 (Nat.zero_le _) (Nat.zero_le _))
    rotate_left
    · have h1 := hlow p hp
      have h2 := @id (@LT.lt Nat _ p.1 I) (hnI p hp)
      simp only [List.mem_cons, List.not_mem_nil, or_false] at ha
      rcases ha with rfl | rfl | rfl | rfl
      · exact Nat.ne_of_lt h2
      · exact Nat.ne_of_lt (Nat.lt_trans h1 hDCl)
      · exact Nat.ne_of_lt h1
      · exact Nat.ne_of_lt (Nat.lt_trans h1 hDKl)
    intro k s' pz1
    obtain ⟨hst', F', N', hap, hpl, hnC, hK', hKd', hJ, hi, hyl⟩ := pz1
    rename_i h' tk ys news' i mC oK vK
    have apI : ∀ p ∈ news', p.1 ≠ I := fun p hp => hap p hp I (by simp)
    have apC : ∀ p ∈ news', p.1 ≠ C := fun p hp => hap p hp C (by simp)
    have apD : ∀ p ∈ news', p.1 ≠ D := fun p hp => hap p hp D (by simp)
    have apK : ∀ p ∈ news', p.1 ≠ K := fun p hp => hap p hp K (by simp)
    have old' : ∀ h₂ : Heap, (∀ b o, b ∉ [I] → h'.get? b = some o → h₂.get? b = some o) → Fr h₀ L h₂ m ∧ News h₀ L h₂ news' ∧ h₂.PlainList D ys.toArray ∧ h₂.Ns C mC ∧ h₂.get? K = some oK := fun h₂ hk =>
      ⟨⟨F'.ns.at' fun o e => hk _ o (fun q => hLI (List.mem_singleton.mp q)) e, fun b o e => hk b o (fun q => by rw [List.mem_singleton.mp q, hI0] at e; cases e) (F'.keep b o e), F'.above⟩,
        fun p hp => ⟨hk _ _ (fun q => apI p hp (List.mem_singleton.mp q)) (N' p hp).1, (N' p hp).2⟩,
        by obtain ⟨kk, e⟩ := hpl; exact ⟨kk, hk _ _ (fun q => absurd (List.mem_singleton.mp q) (Nat.ne_of_gt hIlt)) e⟩,
        hnC.at' fun o e => hk _ o (fun q => absurd (List.mem_singleton.mp q) (Nat.ne_of_gt (Nat.lt_trans hIlt hDCl))) e,
        hk _ _ (fun q => absurd (List.mem_singleton.mp q) (Nat.ne_of_gt (Nat.lt_trans hIlt hDKl))) hK'⟩
    by_cases hlt : i < n
    · refine W.item i _ _ _ hlt hst' fun v h₂ tk₂ hPv hst₂ hk₂ => ?_
      refine Classical.byContradiction ?_; intro kG0
      obtain ⟨F₂, N₂, hpl₂, hnC₂, hK₂⟩ := old' h₂ hk₂
      refine kG0 ?_
      clear kG0
      refine wpAny_assign_Name (wpAny_storeName_cell (env := compEnvC scope ((x, K) :: cl) C env) hkind hkx (by simp [compEnvC]) ⟨oK, hK₂, hKd'⟩ fun h₃ hv₃ hs₃ => ?_)
      refine Classical.byContradiction ?_; intro kG0
      obtain ⟨oK', hK₃, hKd₃⟩ := hv₃
      have up₃ : ∀ b o, b ≠ K → h₂.get? b = some o → h₃.get? b = some o := fun b o hb e => hs₃.extBut b o hb e
      have F₃ : Fr h₀ L h₃ m := ⟨F₂.ns.at' fun o e => up₃ _ o (Nat.ne_of_lt hLK) e, fun b o e => up₃ b o (fun q => by rw [q, hK0] at e; cases e) (F₂.keep b o e), F₂.above⟩
      have N₃ : News h₀ L h₃ news' := fun p hp => ⟨up₃ _ _ (apK p hp) (N₂ p hp).1, (N₂ p hp).2⟩
      have hst₃ : St (i + 1) h₃ := W.frame _ _ _ hst₂ fun b hb o e => up₃ b o (fun q => hKf (q ▸ hb)) e
      obtain ⟨kk, hpl₂⟩ := hpl₂
      have hpl₃ := up₃ _ _ hDK hpl₂
      generalize hoD : ({ cls := .type "list", data := .seq ys.toArray kk } : Obj) = oD at hpl₃
      obtain ⟨oC, es, ep, hoC, rest⟩ := id hnC₂
      refine kG0 ?_
      clear kG0
      have hoC₃ := up₃ _ _ hCK hoC
      have NL : News h₀ L h₃ (((C, oC) :: (D, oD) :: (K, oK') :: ownOf h₀ fp h₃) ++ news') := fun p hp => by
        rcases List.mem_append.mp hp with hp | hp
        · rcases List.mem_cons.mp hp with rfl | hp
          · exact ⟨hoC₃, Nat.ne_of_gt hLC, hC0⟩
          · rcases List.mem_cons.mp hp with rfl | hp
            · exact ⟨hpl₃, Nat.ne_of_gt hLD, hD0⟩
            · rcases List.mem_cons.mp hp with rfl | hp
              · exact ⟨hK₃, Nat.ne_of_gt hLK, hK0⟩
              · exact news_ownOf hLf p hp
        · exact N₃ p hp
      refine wpAny_tests_nil ?_
      simp only [if_true]
      refine wpAny_mono (step i v ys news' h₃ _ C D I K oK' ((C, oC) :: (D, oD) :: (K, oK') :: ownOf h₀ fp h₃) hlt hPv hJ hap (fun a ha => ?_) (by simp) hKd₃ (fun p hp => ⟨hlow p hp, Nat.lt_trans (hlow p hp) hDCl, hnI p hp⟩) F₃ NL) (fun y s₅ hE₅ => ?_) fun _ _ e => e.elim
      · simp only [List.mem_cons, List.not_mem_nil, or_false] at ha
        rcases ha with rfl | rfl | rfl | rfl
        · obtain ⟨oI, e⟩ := hIs _ _ hst₃; exact ⟨oI, .tail _ (.tail _ (.tail _ (mem_ownOf hIf hI0 e)))⟩
        · exact ⟨oC, by simp⟩
        · exact ⟨oD, by simp⟩
        · exact ⟨oK', by simp⟩
      · refine Classical.byContradiction ?_; intro kG0
        obtain ⟨F₅, N₅, hl₅, hs₅, ha₅, hJ₅⟩ := hE₅
        refine kG0 ?_
        clear kG0
        rename_i h₅ tk₅ lall news₅
        have pl₅ : h₅.PlainList D ys.toArray := ⟨kk, hoD ▸ (N₅ _ (hl₅ _ (.tail _ List.mem_cons_self))).1⟩
        have st₅ : St (i + 1) h₅ := W.frame _ _ _ hst₃ fun b hbf o e => by
          cases hn0 : h₀.get? b with
          | some o₀ =>
            have : o₀ = o := by have q := F₃.keep b o₀ hn0; rw [e] at q; exact (Option.some.inj q).symm
            exact this ▸ F₅.keep b o₀ hn0
          | none => exact (N₅ _ (hl₅ _ (.tail _ (.tail _ (.tail _ (mem_ownOf hbf hn0 e)))))).1
        have nC₅ : h₅.Ns C mC := hnC₂.at' fun o e => by rw [hoC] at e; cases e; exact (N₅ _ (hl₅ _ List.mem_cons_self)).1
        have K₅ : h₅.get? K = some oK' := (N₅ _ (hl₅ _ (.tail _ (.tail _ List.mem_cons_self)))).1
        refine wpAny_list_append_plain (hsz := by rw [sizeLine_eq, List.size_toArray]; omega) pl₅ fun h₆ pl₆ hs₆ => ?_
        have up₆ : ∀ b o, b ≠ D → h₅.get? b = some o → h₆.get? b = some o := fun b o hb e => hs₆.extBut b o hb e
        refine ⟨n + 1 - (i + 1), by omega, .mk (ys := ys ++ [y]) (W.frame _ _ _ st₅ fun b hb o e => up₆ b o (fun q => hDf (q ▸ hb)) e)
          ⟨F₅.ns.at' fun o e => up₆ _ o (Nat.ne_of_lt hLD) e, fun b o e => up₆ b o (fun q => by rw [q, hD0] at e; cases e) (F₅.keep b o e), F₅.above⟩
          (fun p hp => ⟨up₆ _ _ (ha₅ p hp D (by simp)) (newsOf N₅ hs₅ p hp).1, (newsOf N₅ hs₅ p hp).2⟩) ha₅ (by simpa using pl₆) (nC₅.at' fun o e => up₆ _ o (Ne.symm hDC) e) (up₆ _ _ (Ne.symm hDK) K₅) hKd₃ hJ₅ hlt (by rw [List.length_append]; exact Nat.succ_le_succ hyl)⟩
    · have hin : i = n := by omega
      subst hin
      refine W.done _ _ _ hst' fun h₂ tk₂ hk₂ => ?_
      refine Classical.byContradiction ?_; intro kG0
      obtain ⟨F₂, N₂, ⟨kk, hpl₂⟩, hnC₂, hK₂⟩ := old' h₂ hk₂
      refine kG0 ?_
      clear kG0
      refine ⟨_, hnC₂, fun h₃ hs => ?_⟩
      have up : ∀ b o, b ≠ C → h₂.get? b = some o → h₃.get? b = some o := fun b o hb e => hs.extBut b o hb e
      refine done D h₃ tk₂ ys news' kk ⟨F₂.ns.at' fun o e => up _ o (Nat.ne_of_lt hLC) e, fun b o e => up b o (fun q => by rw [q, hC0] at e; cases e) (F₂.keep b o e), F₂.above⟩ (fun p hp => ?_) hlow apD hJ
      rcases List.mem_cons.mp hp with rfl | hp
      · exact ⟨up _ _ hDC hpl₂, Nat.ne_of_gt hLD, hD0⟩
      · exact ⟨up _ _ (apC p hp) (N₂ p hp).1, (N₂ p hp).2⟩
  exact codeAny_compStart_list (loop _ rfl) (W.self 0 _ _ _ hst₁ (loop _ rfl))
theorem comp_evalK {v : Value} {n : Nat} {P : Nat → Value → Prop} {a b : Str} (S : Src prog w A h₀ L m news s v n P) (hn : n ≤ 1000)
    (hnm : scope.names = [(a, .local), (x, .cell), (b, .free)]) (hax : (x == a) = false) (hkind : scope.kind = .function)
    (J : Nat → List Value → List (Addr × Obj) → Prop) (h0 : J 0 [] news) (step : ∀ s, StepK prog w A elt x scope cl env h₀ L m news s n P J)
    (done : ∀ D h tk ys news' k, Fr h₀ L h m → News h₀ L h ((D, ({ cls := .type "list", data := .seq ys.toArray k } : Obj)) :: news') → (∀ p ∈ news, p.1 < D) → (∀ p ∈ news', p.1 ≠ D) → J n ys news' → Q (.ref D) { s with heap := h, toks := tk }) :
    wpAny (model prog w) A (pyIter v) (fun it s₂ => CompAt prog w A elt iter x px [] scope cl pos env none Q E it s₂) E s := by
  refine S _ _ fun I fp St h W hIs hLf hI0 hfp hfv hlt hst F N => ?_
  exact comp_K W hIs hn hnm hax hkind hLf hI0 hfp hlt hst F N J h0 (step _) done
end
example : True := by w_top off; trivial
noncomputable def keysOf {α : Type} (b : List (Str × α)) : List Str := b.map (·.1)
/-- one step along the places of ks -/
noncomputable def stepK (ks : List Str) (p : Str) (c : Nat) : Str := if besideF p ⟨#[c]⟩ ∈ ks then besideF p ⟨#[c]⟩ else failedT
noncomputable def ledK (ks : List Str) (l : List Nat) : Str := l.foldl (stepK ks) (Str.ofString "")
theorem valueAt_isSome (kvs : List (Str × Value)) (k : Str) : (valueAt kvs k).isSome = true ↔ k ∈ keysOf kvs := by
  unfold valueAt keysOf
  rw [Option.isSome_map, List.find?_isSome]
  constructor
  · intro pz1
    refine Classical.byContradiction ?_; intro kG0
    obtain ⟨p, hp, e⟩ := pz1
    refine kG0 ?_
    clear kG0
    exact List.mem_map.mpr ⟨p, hp, by simpa using e⟩
  · intro h
    refine Classical.byContradiction ?_; intro kG0
    obtain ⟨p, hp, e⟩ := List.mem_map.mp h
    refine kG0 ?_
    clear kG0
    exact ⟨p, hp, by simpa using e⟩
theorem ledF_keys (kvs : List (Str × Value)) (l : List Nat) : ledF kvs l = ledK (keysOf kvs) l := by
  unfold ledF ledK
  congr 1
  funext p c
  unfold stepF stepK
  by_cases h : besideF p ⟨#[c]⟩ ∈ keysOf kvs
  · rw [if_pos h, if_pos ((valueAt_isSome _ _).mpr h)]
  · rw [if_neg h, if_neg (fun e => h ((valueAt_isSome _ _).mp e))]
noncomputable def toldF (bs : List (List (Str × Stat))) (ws : List Int) : List Str := bs.map fun b => ledK (keysOf b) (ws.map cOf)
theorem stmt_told {w : World} {mean : ExcName → Option Value} {mg mb : Str → Option Value} {h₀ : Heap} {L fa W Bk : Addr} {cd : Value} {m : Str → Option Value} {news Xs : List (Addr × Obj)} {vs : Nat → Option Value} {s : Shared} {Q : Flow → Shared → Prop} {E : Value → Shared → Prop} {wss : List (List Int)} {bs : List (List (Str × Stat))}
    (hw : wss.length ≤ 20 ∧ ∀ ws ∈ wss, ws.length ≤ 20) (hbs : bs.length ≤ 20) (X : (lay.heap_1 w.params).In h₀) (T : Top V loo mean mg mb h₀) (B : Below callerA h₀ [] h₀) (F : Fr h₀ L s.heap m) (N : News h₀ L s.heap news)
    (S : LSt L news Xs vs) (hm : m (Str.ofString "words") = some (.ref W)) (hW : StrsIn Xs (.ref W) (wss.map wordS)) (hv1 : vs 1 = some (.ref Bk)) (hB : SeqIn "list" (BookIn w) Xs (.ref Bk) bs)
    (k : ∀ h' tk' news' Xs' b, Fr h₀ L h' m → News h₀ L h' news' → LSt L news' Xs' (fun j => if j = 2 then some (.ref b) else vs j) → (∀ p ∈ Xs, p ∈ Xs') → SeqIn "list" StrsIn Xs' (.ref b) (wss.map fun ws => toldF bs ws) → Q .next { s with heap := h', toks := tk' }) :
    wpAny (model PySem.Challenge.rw_zn0008_01.row.prog w) (callerA.deeper (lawE lawScope L fa cd)) (exec (lawS 4) (lawE lawScope L fa cd)) Q E s := by
  refine law_open (st' := PySem.Stmt.Assign _ _ _) (sc' := ⟨_, _, _, _, _⟩) rfl rfl ?_
  refine Classical.byContradiction ?_; intro kG0
  obtain ⟨kw, vw, mW, hvw⟩ := hW.get
  obtain ⟨kb, vb, mB, hvb⟩ := hB.get
  have mW' := (S.hX _ mW).1
  have mB' := (S.hX _ mB).1
  obtain ⟨o1, m1, d1⟩ := S.c1
  refine kG0 ?_
  clear kG0
  rw [hv1] at d1
  revert X; k_fill; intro X
  have hml := map_put hm
  rw [hml] at F
  k_steps
  refine' comp_evalK ?S ?hn ?hnm ?hax ?hkind (fun i ys l => (∀ p ∈ news, p ∈ l) ∧ ∃ Y, (∀ p ∈ Y, p ∈ l ∧ @LT.lt Nat _ (L + 7) p.1) ∧ AllV (StrsIn Y) ys ((wss.take i).map fun ws => toldF bs ws)) ⟨fun p hp => hp, [], List.forall_mem_nil _, .nil⟩ ?step ?done
  case S => exact src_list rfl F N mW' rfl rfl
  case hn => have := hvw.length; rw [List.length_map] at this; omega
  case hnm => rfl
  case hax => decide +kernel
  case hkind => rfl
  case step =>
    intro s₁ i v ys news₁ h tk C D I K oK lead hi' hv pz2 hap hle hK hKd hlow F₁ N₁
    refine Classical.byContradiction ?_; intro kG0
    obtain ⟨hsub, Y, hY, hys⟩ := pz2
    obtain ⟨x, hx, t, rfl⟩ := hvw.get hv
    rw [List.getElem?_map] at hx
    obtain ⟨ws, hws, rfl⟩ := Option.map_eq_some_iff.mp hx
    refine kG0 ?_
    clear kG0
    have hwl := hw.2 ws (List.mem_of_getElem? hws)
    have up : ∀ p ∈ news, p ∈ lead ++ news₁ := fun p hp => List.mem_append.mpr (.inr (hsub p hp))
    have m1' := up _ m1
    have hK' : (K, oK) ∈ lead ++ news₁ := List.mem_append.mpr (.inl hK)
    k_steps
    have mB2 := up _ mB'
    refine' comp_evalJ ?S ?hn ?hcell ?hkind ?hx (fun j zs l => (∀ p ∈ lead ++ news₁, p ∈ l) ∧ AllV IsS zs ((bs.take j).map fun b => ledK (keysOf b) (ws.map cOf))) ⟨fun p hp => hp, .nil⟩ ?step2 ?done2
    case S => exact src_list rfl F₁ N₁ mB2 rfl rfl
    case hn => have := hvb.length; omega
    case hcell => decide
    case hkind => rfl
    case hx => rfl
    case step2 =>
      intro j v zs news₂ h2 tk2 C2 D2 I2 lead2 hj hv2 pz3 ld hlow2 F₂ N₂
      refine Classical.byContradiction ?_; intro kG0
      obtain ⟨hsub2, hzs⟩ := pz3
      obtain ⟨b, hb, d, o, kvs, rfl, md, hd1, lo, hal⟩ := hvb.get hv2
      obtain ⟨oC, hC, hbb⟩ := ld.cm
      refine kG0 ?_
      clear kG0
      have hC' : (C2, oC) ∈ lead2 ++ news₂ := List.mem_append.mpr (.inl hC)
      have up2 : ∀ p ∈ lead ++ news₁, p ∈ lead2 ++ news₂ := fun p hp => List.mem_append.mpr (.inr (hsub2 p hp))
      have hK2 := up2 _ hK'
      have md' := up2 _ (up _ (S.hX _ md).1)
      refine wpAny_tests_nil ?_
      simp only [if_true]
      k_steps
      exact EndC.same (by assumption) (by assumption) ld (fun p hp => hp) ⟨hsub2, by rw [takeMap_snoc _ hb]; exact hzs.snoc ⟨_, by rw [ledF_keys, show keysOf kvs = keysOf b from hal.keys]⟩⟩
    case done2 =>
      intro D2 h2 tk2 zs news₂ kz F₂ N₂ hlow2 hap2 pz4
      refine Classical.byContradiction ?_; intro kG0
      obtain ⟨hsub2, hzs⟩ := pz4
      rw [show bs.take vb.length = bs from by rw [hvb.length, List.take_length]] at hzs
      obtain ⟨o7, m7, _⟩ := S.c7
      refine kG0 ?_
      clear kG0
      have hD7 : @LT.lt Nat _ (L + 7) D2 := @id (@LT.lt Nat _ (L + 1 + 1 + 1 + 1 + 1 + 1 + 1) D2) (hlow2 _ (up _ m7))
      refine EndK.mk (news' := (D2, ({ cls := .type "list", data := .seq zs.toArray kz } : Obj)) :: news₁) F₂ N₂ (fun p hp => .tail _ (hsub2 p (List.mem_append.mpr (.inl hp)))) (fun p hp => (List.mem_cons.mp hp).elim (fun e => e ▸ List.mem_cons_self) fun e => .tail _ (hsub2 p (List.mem_append.mpr (.inr e)))) (fun p hp a ha => ?_)
        ⟨fun p hp => .tail _ (hsub p hp), (D2, ({ cls := .type "list", data := .seq zs.toArray kz } : Obj)) :: Y, fun p hp => (List.mem_cons.mp hp).elim (fun e => ⟨e ▸ List.mem_cons_self, e ▸ hD7⟩) (fun e => ⟨.tail _ (hY p e).1, (hY p e).2⟩), ?_⟩
      · rcases List.mem_cons.mp hp with rfl | hp
        · refine Classical.byContradiction ?_; intro kG0
          obtain ⟨oa, hoa⟩ := hle a ha
          refine kG0 ?_
          clear kG0
          exact Nat.ne_of_gt (hlow2 _ (List.mem_append.mpr (.inl hoa)))
        · exact hap p hp a ha
      · rw [takeMap_snoc _ hws]
        exact (hys.mono fun _ _ x => SeqIn.mono x (fun p hp => .tail _ hp) fun _ _ y => y).snoc ⟨D2, kz, zs, rfl, List.mem_cons_self, hzs⟩
  case done =>
    intro D h tk ys news' kD F₁ N₁ hlow hap pz5
    refine Classical.byContradiction ?_; intro kG0
    obtain ⟨hsub, Y, hY, hys⟩ := pz5
    rw [show wss.take vw.length = wss from by rw [hvw.length, List.length_map, List.take_length]] at hys
    have S₁ : LSt L ((D, ({ cls := .type "list", data := .seq ys.toArray kD } : Obj)) :: news') ((D, ({ cls := .type "list", data := .seq ys.toArray kD } : Obj)) :: (Y ++ Xs)) vs :=
      (S.grow fun p hp => .tail _ (hsub p hp)).withX fun p hp => by
        rcases List.mem_cons.mp hp with rfl | hp
        · exact ⟨List.mem_cons_self, S.above hlow⟩
        · rcases List.mem_append.mp hp with hp | hp
          · exact ⟨.tail _ (hY p hp).1, (hY p hp).2⟩
          · exact ⟨.tail _ (hsub p (S.hX p hp).1), (S.hX p hp).2⟩
    obtain ⟨o2, m2, d2⟩ := S₁.c2
    refine kG0 ?_
    clear kG0
    k_steps
    refine cell_store (c := L + 1 + 1) (o := o2) F₁ N₁ (by with_unfolding_all rfl) m2 d2 rfl (by with_unfolding_all rfl) fun h' o' F₂ N₂ d₂ => ?_
    rw [← hml] at F₂
    exact k _ _ _ _ D F₂ N₂ (S₁.put 2 (by decide) rfl d₂) (fun p hp => .tail _ (List.mem_append.mpr (.inr hp))) ⟨D, kD, ys, rfl, List.mem_cons_self, hys.mono fun _ _ x => SeqIn.mono x (fun p hp => .tail _ (List.mem_append.mpr (.inl hp))) fun _ _ y => y⟩
example : True := by w_top off; trivial
theorem HeadsIn.mono {news news' : List (Addr × Obj)} {v : Value} {hs : List (List Int)} (h : HeadsIn news v hs) (hs' : ∀ p ∈ news, p ∈ news') : HeadsIn news' v hs := SeqIn.mono h hs' fun _ _ x => TupIn.mono x hs'
theorem stmt_ways {w : World} {mean : ExcName → Option Value} {mg mb : Str → Option Value} {h₀ : Heap} {L fa W : Addr} {cd : Value} {m : Str → Option Value} {news Xs : List (Addr × Obj)} {vs : Nat → Option Value} {s : Shared} {Q : Flow → Shared → Prop} {E : Value → Shared → Prop} {wss : List (List Int)}
    (hw : wss.length ≤ 20 ∧ ∀ ws ∈ wss, ws.length ≤ 20 ∧ Four ws) (X : (lay.heap_1 w.params).In h₀) (T : Top V loo mean mg mb h₀) (B : Below callerA h₀ [] h₀) (F : Fr h₀ L s.heap m) (N : News h₀ L s.heap news)
    (S : LSt L news Xs vs) (hm : m (Str.ofString "words") = some (.ref W)) (hW : StrsIn Xs (.ref W) (wss.map wordS))
    (k : ∀ h' tk' news' Xs' b, Fr h₀ L h' m → News h₀ L h' news' → LSt L news' Xs' (fun j => if j = 3 then some (.ref b) else vs j) → (∀ p ∈ Xs, p ∈ Xs') → SeqIn "list" HeadsIn Xs' (.ref b) (wss.map headsF) → Q .next { s with heap := h', toks := tk' }) :
    wpAny (model PySem.Challenge.rw_zn0008_01.row.prog w) (callerA.deeper (lawE lawScope L fa cd)) (exec (lawS 5) (lawE lawScope L fa cd)) Q E s := by
  refine law_open (st' := PySem.Stmt.Assign _ _ _) (sc' := ⟨_, _, _, _, _⟩) rfl rfl ?_
  refine Classical.byContradiction ?_; intro kG0
  obtain ⟨kw, vw, mW, hvw⟩ := hW.get
  refine kG0 ?_
  clear kG0
  have mW' := (S.hX _ mW).1
  revert X; k_fill; intro X
  have hml := map_put hm
  rw [hml] at F
  k_steps
  refine' comp_evalJ ?S ?hn ?hcell ?hkind ?hx (fun i ys l => (∀ p ∈ news, p ∈ l) ∧ ∃ Y, (∀ p ∈ Y, p ∈ l ∧ @LT.lt Nat _ (L + 7) p.1) ∧ AllV (HeadsIn Y) ys ((wss.take i).map headsF)) ⟨fun p hp => hp, [], List.forall_mem_nil _, .nil⟩ ?step ?done
  case S => exact src_list rfl F N mW' rfl rfl
  case hn => have := hvw.length; rw [List.length_map] at this; omega
  case hcell => decide
  case hkind => rfl
  case hx => rfl
  case step =>
    intro i v ys news₁ h tk C D I lead hi' hv pz1 ld hlow F₁ N₁
    refine Classical.byContradiction ?_; intro kG0
    obtain ⟨hsub, Y, hY, hys⟩ := pz1
    obtain ⟨x, hx, t, rfl⟩ := hvw.get hv
    rw [List.getElem?_map] at hx
    obtain ⟨ws, hws, rfl⟩ := Option.map_eq_some_iff.mp hx
    have hwl := hw.2 ws (List.mem_of_getElem? hws)
    obtain ⟨oC, hC, hb⟩ := ld.cm
    have hC' : (C, oC) ∈ lead ++ news₁ := List.mem_append.mpr (.inl hC)
    obtain ⟨o7, m7, _⟩ := S.c7
    refine kG0 ?_
    clear kG0
    have m7' := List.mem_append.mpr (.inr (hsub _ m7) : _ ∈ lead ∨ _)
    refine wpAny_tests_nil ?_
    simp only [if_true]
    k_steps
    rename_i r tl h9 tk9 F9 N9 ord out
    exact EndC.grow F9 N9 ord ld (fun p hp => hp) ⟨fun p hp => List.mem_append.mpr (.inr (hsub p hp)), tl ++ Y, fun p hp => (List.mem_append.mp hp).elim (fun e => ⟨List.mem_append.mpr (.inl e), ord _ m7' p e⟩) (fun e => ⟨List.mem_append.mpr (.inr (hY p e).1), (hY p e).2⟩),
      by rw [takeMap_snoc _ hws]; exact (hys.mono fun _ _ x => x.mono fun p hp => List.mem_append.mpr (.inr hp)).snoc (out.mono fun p hp => List.mem_append.mpr (.inl hp))⟩
  case done =>
    intro D h tk ys news' kD F₁ N₁ hlow hap pz2
    refine Classical.byContradiction ?_; intro kG0
    obtain ⟨hsub, Y, hY, hys⟩ := pz2
    rw [show wss.take vw.length = wss from by rw [hvw.length, List.length_map, List.take_length]] at hys
    have S₁ : LSt L ((D, ({ cls := .type "list", data := .seq ys.toArray kD } : Obj)) :: news') ((D, ({ cls := .type "list", data := .seq ys.toArray kD } : Obj)) :: (Y ++ Xs)) vs :=
      (S.grow fun p hp => .tail _ (hsub p hp)).withX fun p hp => by
        rcases List.mem_cons.mp hp with rfl | hp
        · exact ⟨List.mem_cons_self, S.above hlow⟩
        · rcases List.mem_append.mp hp with hp | hp
          · exact ⟨.tail _ (hY p hp).1, (hY p hp).2⟩
          · exact ⟨.tail _ (hsub p (S.hX p hp).1), (S.hX p hp).2⟩
    obtain ⟨o3, m3, d3⟩ := S₁.c3
    refine kG0 ?_
    clear kG0
    k_steps
    refine cell_store (c := L + 1 + 1 + 1) (o := o3) F₁ N₁ (by with_unfolding_all rfl) m3 d3 rfl (by with_unfolding_all rfl) fun h' o' F₂ N₂ d₂ => ?_
    rw [← hml] at F₂
    exact k _ _ _ _ D F₂ N₂ (S₁.put 3 (by decide) rfl d₂) (fun p hp => .tail _ (List.mem_append.mpr (.inr hp))) ⟨D, kD, ys, rfl, List.mem_cons_self, hys.mono fun _ _ x => x.mono fun p hp => .tail _ (List.mem_append.mpr (.inl hp))⟩
theorem head_last {ws : List Int} {vs : List Value} {Y : List (Addr × Obj)} (h : AllV (TupIn Y) vs (headsF ws)) (hn : ws.length ≤ 20) : ∃ v, ItemIs vs (-1) v ∧ TupIn Y v (headEnd ws) := by
  refine Classical.byContradiction ?_; intro kG0
  obtain ⟨v, hv, ht⟩ := h.get' (headsF_last ws)
  refine kG0 ?_
  clear kG0
  have hl : vs.length = ws.length + 1 := by rw [h.length, headsF_len]
  exact ⟨v, ItemIs.last hv hl (by omega), ht⟩
theorem headEnd_four {ws : List Int} (h : Four ws) : Four (headEnd ws) := by
  have : ∀ (l acc : List Int), Four l → Four acc → Four (l.foldl headStep acc) := by
    intro l
    induction l with
    | nil => intro acc _ h; exact h
    | cons n r ih =>
      intro acc hl ha
      rw [List.foldl_cons]
      refine ih _ (fun k hk => hl k (.tail _ hk)) ?_
      unfold headStep
      split
      · split
        · exact fun k hk => ha k (List.dropLast_subset _ hk)
        · exact ha.snoc (hl n List.mem_cons_self)
      · exact ha.snoc (hl n List.mem_cons_self)
  exact this ws [] h (List.forall_mem_nil _)
theorem headEnd_length (ws : List Int) : (headEnd ws).length ≤ ws.length := by have := headEnd_len ws ws.length; rwa [List.take_length] at this
theorem stmt_ends {w : World} {mean : ExcName → Option Value} {mg mb : Str → Option Value} {h₀ : Heap} {L fa Wy : Addr} {cd : Value} {m : Str → Option Value} {news Xs : List (Addr × Obj)} {vs : Nat → Option Value} {s : Shared} {Q : Flow → Shared → Prop} {E : Value → Shared → Prop} {wss : List (List Int)}
    (hw : wss.length ≤ 20 ∧ ∀ ws ∈ wss, ws.length ≤ 20 ∧ Four ws) (X : (lay.heap_1 w.params).In h₀) (T : Top V loo mean mg mb h₀) (B : Below callerA h₀ [] h₀) (F : Fr h₀ L s.heap m) (N : News h₀ L s.heap news)
    (S : LSt L news Xs vs) (hv3 : vs 3 = some (.ref Wy)) (hW : SeqIn "list" HeadsIn Xs (.ref Wy) (wss.map headsF))
    (k : ∀ h' tk' news' Xs' b, Fr h₀ L h' (fun y => if y = Str.ofString "ends" then some (.ref b) else m y) → News h₀ L h' news' → LSt L news' Xs' vs → (∀ p ∈ Xs, p ∈ Xs') → StrsIn Xs' (.ref b) (wss.map fun ws => placeS (headEnd ws)) → Q .next { s with heap := h', toks := tk' }) :
    wpAny (model PySem.Challenge.rw_zn0008_01.row.prog w) (callerA.deeper (lawE lawScope L fa cd)) (exec (lawS 7) (lawE lawScope L fa cd)) Q E s := by
  refine law_open (st' := PySem.Stmt.Assign _ _ _) (sc' := ⟨_, _, _, _, _⟩) rfl rfl ?_
  refine Classical.byContradiction ?_; intro kG0
  obtain ⟨kw, vw, mW, hvw⟩ := hW.get
  have mW' := (S.hX _ mW).1
  obtain ⟨o3, m3, d3⟩ := S.c3
  refine kG0 ?_
  clear kG0
  rw [hv3] at d3
  revert X; k_fill; intro X
  k_steps
  refine' comp_localJ ?S ?hn ?hcell ?hkind ?hx ?hy ?hp (fun i ys l => (∀ p ∈ news, p ∈ l) ∧ AllV IsS ys ((wss.take i).map fun ws => placeS (headEnd ws))) ⟨fun p hp => hp, .nil⟩ ?step ?done
  case S => exact src_list rfl F N mW' rfl rfl
  case hn => have := hvw.length; rw [List.length_map] at this; omega
  case hcell => decide
  case hkind => rfl
  case hx => rfl
  case hy => with_unfolding_all rfl
  case hp => rfl
  case step =>
    intro i v ys news₁ h tk C D I lead hi' hv pz3 ld hlow F₁ N₁
    refine Classical.byContradiction ?_; intro kG0
    obtain ⟨hsub, hys⟩ := pz3
    obtain ⟨hs, hx, a, ka, va, rfl, ma, hva⟩ := hvw.get hv
    rw [List.getElem?_map] at hx
    obtain ⟨ws, hws, rfl⟩ := Option.map_eq_some_iff.mp hx
    obtain ⟨hwl, h4⟩ := hw.2 ws (List.mem_of_getElem? hws)
    obtain ⟨vl, hit, htp⟩ := head_last hva hwl
    have hok : (headEnd ws).length ≤ 20 ∧ Four (headEnd ws) := ⟨Nat.le_trans (headEnd_length ws) hwl, headEnd_four h4⟩
    obtain ⟨oC, hC, hb⟩ := ld.cm
    refine kG0 ?_
    clear kG0
    have hC' : (C, oC) ∈ lead ++ news₁ := List.mem_append.mpr (.inl hC)
    have upX : ∀ p ∈ Xs, p ∈ lead ++ news₁ := fun p hp => List.mem_append.mpr (.inr (hsub p (S.hX p hp).1))
    have ma' := upX _ ma
    have htp' := htp.mono upX
    refine wpAny_tests_nil ?_
    simp only [if_true]
    k_steps
    exact EndC.same (by assumption) (by assumption) ld (fun p hp => hp) ⟨hsub, by rw [takeMap_snoc _ hws]; exact hys.snoc ⟨_, rfl⟩⟩
  case done =>
    intro D h tk ys news' kD F₁ N₁ hlow hap pz4
    refine Classical.byContradiction ?_; intro kG0
    obtain ⟨hsub, hys⟩ := pz4
    refine kG0 ?_
    clear kG0
    rw [show wss.take vw.length = wss from by rw [hvw.length, List.length_map, List.take_length]] at hys
    exact k _ _ _ ((D, ({ cls := .type "list", data := .seq ys.toArray kD } : Obj)) :: Xs) D F₁ N₁ ((S.grow fun p hp => .tail _ (hsub p hp)).withX fun p hp => by
        rcases List.mem_cons.mp hp with rfl | hp
        · exact ⟨List.mem_cons_self, S.above hlow⟩
        · exact ⟨.tail _ (hsub p (S.hX p hp).1), (S.hX p hp).2⟩) (fun p hp => .tail _ hp) ⟨D, kD, ys, rfl, List.mem_cons_self, hys⟩
example : True := by w_top off; trivial
open SeqAt AutoSeq1 MeetsSeq MeetsSeq2 MeetsSeq3 SeqRoads2 in
section
/-- equal, in this program and this world (the library's word is for all worlds, so it can't hold of dicts) -/
noncomputable def Eq1 (w : World) (A : Around) (s : Shared) (y x : Value) : Prop :=
  ∀ (E : Value → Shared → Prop) (Q : Bool → Shared → Prop), Q true s → wpAny (model PySem.Challenge.rw_zn0008_01.row.prog w) A (eqBool y x) Q E s
variable {w : World} {A : Around} {E : Value → Shared → Prop} {s : Shared}
theorem Eq1.at {y x : Value} (h : SeqAt.EqAt A s y x true) : Eq1 w A s y x := fun E Q q => h _ w E Q q
theorem Eq1.ints {y x : Value} {i : Int} (hy : IsI y i) (hx : IsI x i) : Eq1 w A s y x := by
  obtain ⟨t, rfl⟩ := hy; obtain ⟨u, rfl⟩ := hx
  intro E Q q
  exact wpAny_eqBool_int (by rw [beq_self_eq_true]; exact q)
theorem Eq1.refs {a b : Addr} (h : a ≠ b → ∀ (E : Value → Shared → Prop) (Q : Value → Shared → Prop), Q (.bool true) s → wpAny (model PySem.Challenge.rw_zn0008_01.row.prog w) A (richCompare .Eq (.ref a) (.ref b)) Q E s) :
    Eq1 w A s (.ref a) (.ref b) := by
  intro E Q q
  unfold eqBool
  refine wpAny_holding (wpAny_ite_split (fun _ => ?_) (fun hab => ?_))
  · exact wpAny_bind (wpAny_rule (wpAny_pure q))
  · refine wpAny_bind (h (fun e => hab (by rw [e]; exact beq_self_eq_true _)) E _ (wpAny_truthy_bool q))
/-- the loop of list's !=, over lists alike in each place -/
theorem ne_loop1 {a b : Addr} {xs ys : Array Value} {n n2 : Nat} {dd dd2 : Option Addr} {sl sl2 : Array (Option Value)} (hsz : xs.size = ys.size) (R : Result → Shared → Prop)
    (ha : s.heap.get? a = some { cls := .type "list", dict := dd, data := .seq xs n, slots := sl }) (hb : s.heap.get? b = some { cls := .type "list", dict := dd2, data := .seq ys n2, slots := sl2 })
    (he : ∀ j (h1 : j < xs.size) (h2 : j < ys.size), Eq1 w A.in1 s xs[j] ys[j]) (q : R (.ok (.ret (.bool false))) s) : ∀ (k i : Nat), i + k = xs.size →
    wpAny (model PySem.Challenge.rw_zn0008_01.row.prog w) A.in1 (Builtin.«list.__eq__.loop» ⟨[.ref a, .ref b, rawInt i, rawInt 3], []⟩)
      (fun fin s' => match fin with | .done f => R (.ok f) s' | .again c' => c'.quiet = true ∧ codeAny (model PySem.Challenge.rw_zn0008_01.row.prog w) A c' R s') (fun e s' => R (.error e) s') s := by
  refine Classical.byContradiction ?_; intro kG0
  obtain ⟨hp, g, d, tk, os⟩ := s
  refine kG0 ?_
  clear kG0
  intro k
  induction k with
  | zero =>
    intro i hk
    wp_walk using wpAny_loadPart' ha, wpAny_loadPart' hb
    have e1 : xs[((i : Nat) : Int).toNat]? = none := by simp; omega
    have e2 : ys[((i : Nat) : Int).toNat]? = none := by simp; omega
    rw [e1, e2]
    wp_walk using wpAny_loadPart' ha, wpAny_loadPart' hb
    show R (.ok (.ret (.bool (xs.size != ys.size)))) _
    rw [hsz]
    simpa using q
  | succ k ih =>
    intro i hk
    wp_walk using wpAny_loadPart' ha, wpAny_loadPart' hb
    have l1 : i < xs.size := by omega
    have l2 : i < ys.size := by omega
    have e1 : xs[((i : Nat) : Int).toNat]? = some xs[i] := by simp [l1]
    have e2 : ys[((i : Nat) : Int).toNat]? = some ys[i] := by simp [l2]
    rw [e1, e2]
    refine wpAny_bind (he i l1 l2 _ _ ?_)
    wp_walk
    have e3 : ((i : Int) + 1) = ((i + 1 : Nat) : Int) := by push_cast; rfl
    rw [e3]
    exact ⟨plainId_quiet plain_eq_loop _, codeAny_builtin entry_eq_loop (by
      rw [Around.under_plainId plain_eq_loop _]
      exact ih (i + 1) (by omega))⟩
theorem ne_lists1 {a b : Addr} {xs ys : Array Value} (ha : s.heap.IsList a xs) (hb : s.heap.IsList b ys) (hsz : xs.size = ys.size) (hu : A.units < cLine)
    (he : ∀ j (h1 : j < xs.size) (h2 : j < ys.size), Eq1 w A.in1 s xs[j] ys[j]) {Q : Value → Shared → Prop} (q : Q (.bool false) s) :
    wpAny (model PySem.Challenge.rw_zn0008_01.row.prog w) A (compareOp .NotEq (.ref a) (.ref b)) Q E s := by
  refine Classical.byContradiction ?_; intro kG0
  obtain ⟨⟨cls, dd, data, sl⟩, ho, hc, n, hd⟩ := id ha
  obtain ⟨⟨cls2, dd2, data2, sl2⟩, ho2, hc2, n2, hd2⟩ := id hb
  refine kG0 ?_
  clear kG0
  simp only at hc hd hc2 hd2
  subst hc hd hc2 hd2
  refine Classical.byContradiction ?_; intro kG0
  obtain ⟨hp, g, d, tk, os⟩ := s
  refine kG0 ?_
  clear kG0
  refine wpAny_richCompare_same_room (op := .NotEq) ⟨_, ho, rfl⟩ ⟨_, ho2, rfl⟩ F.slot_list_ne ?_ hu
  refine wpAny_call (codeAny_call_builtin F.slot_list_ne.plain F.entry_list_ne (F.slot_list_ne.check _ _ _ _ _ _ _ _ ⟨_, ho, rfl⟩ (F.args_list_ne_2 _ _) ?_))
  have f3 := AutoSeq1.sub_list_list
  have hne : ¬ (xs.size != ys.size) = true := by simp [hsz]
  wp_walk using wpAny_loadPart' ho, wpAny_loadPart' ho2
  exact ⟨plainId_quiet plain_eq_loop _, codeAny_builtin entry_eq_loop (by
    rw [Around.under_plainId plain_eq_loop _]
    exact ne_loop1 hsz (wants (fun v s' => v ≠ .notImplemented ∧ Q v s') E) ho ho2 he (show Value.bool false ≠ Value.notImplemented ∧ Q (.bool false) _ from ⟨(fun x => nomatch x), q⟩) xs.size 0 (Nat.zero_add _))⟩
/-- tuples alike in each place -/
theorem eq_tuples1 {a b : Addr} {xs ys : Array Value} (ha : s.heap.IsTuple a xs) (hb : s.heap.IsTuple b ys) (hsz : xs.size = ys.size) (hu : A.units < cLine)
    (he : ∀ p ∈ xs.toList.zip ys.toList, Eq1 w A.in1 s p.1 p.2) {Q : Value → Shared → Prop} (q : Q (.bool true) s) :
    wpAny (model PySem.Challenge.rw_zn0008_01.row.prog w) A (richCompare .Eq (.ref a) (.ref b)) Q E s := by
  refine Classical.byContradiction ?_; intro kG0
  obtain ⟨⟨cls, dd, data, sl⟩, ho, hc, n, hd⟩ := id ha
  obtain ⟨⟨cls2, dd2, data2, sl2⟩, ho2, hc2, n2, hd2⟩ := id hb
  refine kG0 ?_
  clear kG0
  simp only at hc hd hc2 hd2
  subst hc hd hc2 hd2
  refine Classical.byContradiction ?_; intro kG0
  obtain ⟨hp, g, d, tk, os⟩ := s
  refine kG0 ?_
  clear kG0
  refine wpAny_richCompare_same_room (op := .Eq) ⟨_, ho, rfl⟩ ⟨_, ho2, rfl⟩ F.slot_tuple_eq ?_ hu
  refine wpAny_call_entry F.slot_tuple_eq ⟨_, ho, rfl⟩ F.entry_tuple_eq ?_ (F.args_tuple_eq_2 _ _)
  have f2 := AutoSeq1.sub_tuple_tuple
  wp_walk using wpAny_loadPart' ho, wpAny_loadPart' ho2, wpAny_forIn_list _ (fun rest b s' => b.1 = none ∧ s' = ⟨hp, g, d, tk, os⟩ ∧ ∀ p ∈ rest, p ∈ xs.toList.zip ys.toList) _
  case turn =>
    intro p rest b s' pz1
    refine Classical.byContradiction ?_; intro kG0
    obtain ⟨hb', rfl, hm⟩ := pz1
    refine kG0 ?_
    clear kG0
    refine wpAny_bind (he p (hm p (List.mem_cons_self ..)) _ _ ?_)
    wp_walk
    exact ⟨rfl, rfl, fun p hp => hm p (List.mem_cons_of_mem _ hp)⟩
  case fin =>
    intro pz2 s' pz3
    refine Classical.byContradiction ?_; intro kG0
    obtain ⟨b1, b2⟩ := pz2
    obtain ⟨hb', rfl, -⟩ := pz3
    refine kG0 ?_
    clear kG0
    simp only at hb'
    subst hb'
    wp_walk
    refine ⟨_, rfl, (fun x => nomatch x), ?_⟩
    rw [show Builtin.Tuple.tupleCompareSizes .Eq xs.size ys.size = .bool true by simp [Builtin.Tuple.tupleCompareSizes, hsz]]
    exact q
  case h => exact ⟨rfl, rfl, fun p hp => hp⟩
/-- dicts with as many keys, of which each of the one stands in the other over an equal value -/
theorem samePairs1 {nm : String} {a b : Addr} {ka kb : List (Str × Value)} {Q : Bool → Shared → Prop} (ha : (a == sysModules) = false) (hb : (b == sysModules) = false)
    (da : s.heap.DictOf (SK w) a ka) (db : s.heap.DictOf (SK w) b kb) (hl : ka.length = kb.length) (hits : ∀ p ∈ ka, ∃ y, valueAt kb p.1 = some y ∧ Eq1 w A s p.2 y) (q : Q true s) :
    wpAny (model PySem.Challenge.rw_zn0008_01.row.prog w) A (Builtin.Dict.samePairs nm a b) Q E s := by
  refine Classical.byContradiction ?_; intro kG0
  obtain ⟨oa, es, ep, hoa, _, hda, hka, hpa, _⟩ := da
  obtain ⟨ob, es', ep', hob, _, hdb, hkb, hpb, _⟩ := db
  refine kG0 ?_
  clear kG0
  have la : ka.length = es.size := hpa.length.symm
  have lb : kb.length = es'.size := hpb.length.symm
  have hsz : es.size = es'.size := by omega
  unfold Builtin.Dict.samePairs Builtin.Dict.showsAll
  rw [if_neg (by rw [ha]; exact Bool.false_ne_true), if_neg (by rw [hb]; exact Bool.false_ne_true)]
  refine wpAny_bind (wpAny_pure (wpAny_bind (wpAny_pure (wpAny_bind (wpAny_dictEntries hoa hda ?_)))))
  dsimp only
  refine wpAny_bind (wpAny_dictEntries hob hdb ?_)
  rw [if_neg (by rw [hsz]; simp)]
  refine wpAny_bind (wpAny_dictEpoch hoa hda (wpAny_bind ?_))
  rw [Std.Legacy.Range.forIn_eq_forIn_range']
  simp only [Std.Legacy.Range.size, Nat.sub_zero, Nat.add_sub_cancel, Nat.div_one]
  refine wpAny_forIn_list _ (fun rest r s' => s' = s ∧ r = (none, ()) ∧ ∀ i ∈ rest, i < es.size) _ ?_ ?_ _ _ ⟨rfl, rfl, fun i hi => by have := (List.mem_range'.mp hi); omega⟩
  · intro i rest r s' pz4
    refine Classical.byContradiction ?_; intro kG0
    obtain ⟨rfl, rfl, hi⟩ := pz4
    refine kG0 ?_
    clear kG0
    have hlt := hi i (List.mem_cons_self ..)
    have hlt' : i < ka.length := by omega
    refine wpAny_bind (wpAny_dictEntries hoa hda ?_)
    rw [Array.getElem?_eq_getElem hlt]
    refine Classical.byContradiction ?_; intro kG0
    obtain ⟨k, v, hkv⟩ : ∃ k v, ka[i] = (k, v) := ⟨_, _, rfl⟩
    obtain ⟨hkey, hval⟩ := hpa.get? (i := i) (e := es[i]) (k := k) (v := v) (by rw [Array.getElem?_toList]; exact Array.getElem?_eq_getElem hlt) (by rw [List.getElem?_eq_getElem hlt', hkv])
    obtain ⟨k', hk', hh⟩ := hka es[i] (Array.getElem_mem hlt)
    have ekk : k' = k := (SK w).inj _ _ _ hk' hkey
    rw [ekk] at hh
    obtain ⟨y, hy, he⟩ := hits (k, v) (hkv ▸ List.getElem_mem hlt')
    refine kG0 ?_
    clear kG0
    show wpAny _ _ (holding [es[i].key, es[i].val] _ >>= _) _ _ _
    rw [hh]
    refine wpAny_bind (wpAny_holding (wpAny_bind (wpAny_dictFind_of hkey hob hdb hkb ?_)))
    have hf : findBy (SK w).is es' k = some y := by
      rw [← hy, ← hpb.find k]
      simp [findBy]
    rw [findBy_of_findIdx?] at hf
    cases hj : es'.findIdx? fun e => (SK w).is k e.key with
    | none => rw [hj] at hf; cases hf
    | some j =>
      refine Classical.byContradiction ?_; intro kG0
      obtain ⟨hjlt, _, _⟩ := Array.findIdx?_eq_some_iff_getElem.mp hj
      refine kG0 ?_
      clear kG0
      have ey : es'[j].val = y := by rw [hj] at hf; simpa [Array.getElem?_eq_getElem hjlt] using hf
      refine wpAny_bind (wpAny_dictEntries hob hdb ?_)
      rw [Array.getElem?_eq_getElem hjlt]
      rw [← ey, ← hval] at he
      refine wpAny_holding (he _ _ ?_)
      show wpAny _ _ (if (!true) = true then _ else _) _ _ _
      rw [if_neg (by decide)]
      refine wpAny_bind (wpAny_dictEpoch hoa hda ?_)
      rw [if_neg (by simp)]
      exact wpAny_pure ⟨rfl, rfl, fun i h => hi i (List.mem_cons_of_mem _ h)⟩
  · intro r s' pz5
    refine Classical.byContradiction ?_; intro kG0
    obtain ⟨rfl, rfl, _⟩ := pz5
    refine kG0 ?_
    clear kG0
    exact wpAny_pure q
theorem eq_dicts1 {a b : Addr} {ka kb : List (Str × Value)} {Q : Value → Shared → Prop} (ha : (a == sysModules) = false) (hb : (b == sysModules) = false)
    (da : s.heap.DictOf (SK w) a ka) (db : s.heap.DictOf (SK w) b kb) (hl : ka.length = kb.length) (hu : A.units < cLine) (hits : ∀ p ∈ ka, ∃ y, valueAt kb p.1 = some y ∧ Eq1 w A.in1 s p.2 y) (q : Q (.bool true) s) :
    wpAny (model PySem.Challenge.rw_zn0008_01.row.prog w) A (richCompare .Eq (.ref a) (.ref b)) Q E s := by
  refine wpAny_richCompare_same_room (op := .Eq) da.typeIs db.typeIs PySem.F.slot_dict_eq (wpAny_call_entry PySem.F.slot_dict_eq da.typeIs PySem.F.entry_dict_eq ?_ (PySem.F.args_dict_eq_2 _ _)) hu
  show wpAny _ _ (Builtin.Dict.dictSlotArgs "__eq__" ⟨[.ref a, .ref b], []⟩ >>= _) _ _ s
  unfold Builtin.Dict.dictSlotArgs
  refine wpAny_bind (wpAny_bind (wpAny_notOrdered_dict da.typeIs ?_))
  refine (show wpAny _ _ (pure (Value.ref a, Value.ref b)) _ _ s from wpAny_pure ?_)
  refine wpAny_bind (wpAny_isInstance (T := "dict") db.typeIs PySem.F.sub_dict_dict ?_)
  simp only [Bool.not_true, Bool.false_eq_true, if_false]
  refine wpAny_bind (wpAny_pure (wpAny_bind (wpAny_pure (wpAny_bind (samePairs1 ha hb da db hl hits ?_)))))
  exact wpAny_pure ⟨_, rfl, (fun x => nomatch x), q⟩
end
example : True := by w_top off; trivial
/-- as many keys, and each key of the one in the other, over what R joins -/
noncomputable def TabEq {α : Type} (R : α → α → Prop) (b c : List (Str × α)) : Prop := b.length = c.length ∧ ∀ p ∈ b, ∃ y, lookK c p.1 = some y ∧ R p.2 y
noncomputable def StatEq (x y : Stat) : Prop := x.cc = y.cc ∧ x.nc = y.nc ∧ x.tt = y.tt ∧ x.ct = y.ct ∧ TabEq (fun a b => a = b) x.cal y.cal
theorem AllKV.mem {α : Type} {V : Value → α → Prop} {kvs : List (Str × Value)} {c : List (Str × α)} (h : AllKV V kvs c) : ∀ p ∈ kvs, ∃ a, (p.1, a) ∈ c ∧ V p.2 a := by
  induction h with
  | nil => exact fun _ h => nomatch h
  | @cons k v a r t x _ ih =>
    intro p hp
    rcases List.mem_cons.mp hp with rfl | hp
    · exact ⟨a, .head _, x⟩
    · obtain ⟨b, hb, hv⟩ := ih p hp; exact ⟨b, .tail _ hb, hv⟩
section
variable {w : World} {A : Around} {E : Value → Shared → Prop} {s : Shared} {h₀ : Heap} {L : Addr} {news X : List (Addr × Obj)} {v v' : Value}
theorem tab_hits {α : Type} {V V' : Value → α → Prop} {R : α → α → Prop} {kvs kvs' : List (Str × Value)} {b c : List (Str × α)} (h : AllKV V kvs b) (h' : AllKV V' kvs' c) (e : TabEq R b c)
    (f : ∀ v v' a a', V v a → V' v' a' → R a a' → Eq1 w A s v v') : ∀ p ∈ kvs, ∃ y, valueAt kvs' p.1 = some y ∧ Eq1 w A s p.2 y := by
  intro p hp
  refine Classical.byContradiction ?_; intro kG0
  obtain ⟨a, ha, hv⟩ := h.mem p hp
  obtain ⟨y, hy, hr⟩ := e.2 _ ha
  refine kG0 ?_
  clear kG0
  rcases h'.look (k := p.1) with ⟨_, hn⟩ | ⟨u, a', hu, ha', hv'⟩
  · rw [hn] at hy; cases hy
  · rw [ha'] at hy; cases hy
    exact ⟨u, hu, f _ _ _ _ hv hv' hr⟩
theorem cal_eq {c c' : List (Str × Int)} (N : News h₀ L s.heap news) (hX : ∀ p ∈ X, p ∈ news) (h : CalIn w X v c) (h' : CalIn w X v' c') (e : TabEq (fun a b => a = b) c c') (hu : A.units < cLine) : Eq1 w A s v v' := by
  refine Classical.byContradiction ?_; intro kG0
  obtain ⟨d, o, kvs, rfl, md, hd, lo, ha⟩ := h
  obtain ⟨d', o', kvs', rfl, md', hd', lo', ha'⟩ := h'
  refine kG0 ?_
  clear kG0
  refine Eq1.refs fun _ E Q q => eq_dicts1 lo lo' (Heap.dictOf_iff.mpr ⟨o, (N _ (hX _ md)).1, hd⟩) (Heap.dictOf_iff.mpr ⟨o', (N _ (hX _ md')).1, hd'⟩) (by rw [ha.length, ha'.length]; exact e.1) hu ?_ q
  exact tab_hits ha ha' e fun v v' a a' i i' r => .ints i (r ▸ i')
theorem stat_eq {c c' : Stat} (N : News h₀ L s.heap news) (hX : ∀ p ∈ X, p ∈ news) (h : StatIn w X v c) (h' : StatIn w X v' c') (e : StatEq c c') (hu : A.units + 1 < cLine) : Eq1 w A s v v' := by
  refine Classical.byContradiction ?_; intro kG0
  obtain ⟨d, n, t1, t2, t3, t4, cv, rfl, md, hc⟩ := h
  obtain ⟨d', n', u1, u2, u3, u4, cv', rfl, md', hc'⟩ := h'
  obtain ⟨e1, e2, e3, e4, e5⟩ := e
  refine kG0 ?_
  clear kG0
  refine Eq1.refs fun _ E Q q => eq_tuples1 ⟨_, (N _ (hX _ md)).1, rfl, _, rfl⟩ ⟨_, (N _ (hX _ md')).1, rfl, _, rfl⟩ rfl (by omega) ?_ q
  rw [e1, e2, e3, e4]
  intro p hp
  simp only [List.toArray, List.zip_cons_cons, List.zip_nil_right, List.mem_cons, List.not_mem_nil, or_false] at hp
  rcases hp with rfl | rfl | rfl | rfl | rfl
  · exact .ints ⟨_, rfl⟩ ⟨_, rfl⟩
  · exact .ints ⟨_, rfl⟩ ⟨_, rfl⟩
  · exact .ints ⟨_, rfl⟩ ⟨_, rfl⟩
  · exact .ints ⟨_, rfl⟩ ⟨_, rfl⟩
  · exact cal_eq N hX hc hc' e5 hu
theorem book_eq {c c' : List (Str × Stat)} (N : News h₀ L s.heap news) (hX : ∀ p ∈ X, p ∈ news) (h : BookIn w X v c) (h' : BookIn w X v' c') (e : TabEq StatEq c c') (hu : A.units + 2 < cLine) : Eq1 w A s v v' := by
  refine Classical.byContradiction ?_; intro kG0
  obtain ⟨d, o, kvs, rfl, md, hd, lo, ha⟩ := h
  obtain ⟨d', o', kvs', rfl, md', hd', lo', ha'⟩ := h'
  refine kG0 ?_
  clear kG0
  refine Eq1.refs fun _ E Q q => eq_dicts1 lo lo' (Heap.dictOf_iff.mpr ⟨o, (N _ (hX _ md)).1, hd⟩) (Heap.dictOf_iff.mpr ⟨o', (N _ (hX _ md')).1, hd'⟩) (by rw [ha.length, ha'.length]; exact e.1) (by omega) ?_ q
  exact tab_hits ha ha' e fun v v' a a' i i' r => stat_eq N hX i i' r hu
theorem books_ne {a b : Addr} {bs cs : List (List (Str × Stat))} {Q : Value → Shared → Prop} (N : News h₀ L s.heap news) (hX : ∀ p ∈ X, p ∈ news) (h : SeqIn "list" (BookIn w) X (.ref a) bs) (h' : SeqIn "list" (BookIn w) X (.ref b) cs)
    (hl : bs.length = cs.length) (e : ∀ (i : Nat) (b c : List (Str × Stat)), bs[i]? = some b → cs[i]? = some c → TabEq StatEq b c) (hu : A.units + 3 < cLine) (q : Q (.bool false) s) :
    wpAny (model PySem.Challenge.rw_zn0008_01.row.prog w) A (compareOp .NotEq (.ref a) (.ref b)) Q E s := by
  refine Classical.byContradiction ?_; intro kG0
  obtain ⟨k, vs, ma, ha⟩ := h.get
  obtain ⟨k', vs', mb, hb⟩ := h'.get
  refine kG0 ?_
  clear kG0
  refine ne_lists1 (isList_of N (hX _ ma)) (isList_of N (hX _ mb)) (by have := ha.length; have := hb.length; simp only [List.size_toArray]; omega) (by omega) ?_ q
  intro j h1 h2
  simp only [List.size_toArray] at h1 h2
  refine Classical.byContradiction ?_; intro kG0
  obtain ⟨x, hx, hv⟩ := ha.get (i := j) (v := vs[j]) (List.getElem?_eq_getElem h1)
  obtain ⟨y, hy, hv'⟩ := hb.get (i := j) (v := vs'[j]) (List.getElem?_eq_getElem h2)
  refine kG0 ?_
  clear kG0
  exact book_eq N hX hv hv' (e j x y hx hy) (by show A.units + 1 + 2 < _; omega)
end
example : True := by w_top off; trivial
theorem headsF_mem {ws h : List Int} (hm : h ∈ headsF ws) (hw : ws.length ≤ 20 ∧ Four ws) : h.length ≤ 20 ∧ Four h := by
  unfold headsF at hm
  refine Classical.byContradiction ?_; intro kG0
  obtain ⟨j, _, rfl⟩ := List.mem_map.mp hm
  refine kG0 ?_
  clear kG0
  exact ⟨Nat.le_trans (headEnd_length _) (Nat.le_trans (List.length_take_le' _ _) hw.1), headEnd_four fun k hk => hw.2 k (List.mem_of_mem_take hk)⟩
theorem stmt_cmp {w : World} {mean : ExcName → Option Value} {mg mb : Str → Option Value} {h₀ : Heap} {L fa Wb Wy : Addr} {cd : Value} {m : Str → Option Value} {news Xs : List (Addr × Obj)} {vs : Nat → Option Value} {s : Shared} {Q : Flow → Shared → Prop} {E : Value → Shared → Prop} {wss : List (List Int)}
    (hw : wss.length ≤ 20 ∧ ∀ ws ∈ wss, ws.length ≤ 19 ∧ Four ws) (X : (lay.heap_1 w.params).In h₀) (T : Top V loo mean mg mb h₀) (B : Below callerA h₀ [] h₀) (F : Fr h₀ L s.heap m) (N : News h₀ L s.heap news)
    (S : LSt L news Xs vs) (hv1 : vs 1 = some (.ref Wb)) (hWb : SeqIn "list" (BookIn w) Xs (.ref Wb) (wss.map fun ws => bookF (ws.map cOf))) (hv3 : vs 3 = some (.ref Wy)) (hW : SeqIn "list" HeadsIn Xs (.ref Wy) (wss.map headsF))
    (hEq : ∀ ws ∈ wss, TabEq StatEq (bookF (ws.map cOf)) (dueF (headsF ws)))
    (k : ∀ h' tk' news', Fr h₀ L h' m → News h₀ L h' news' → LSt L news' Xs vs → Q .next { s with heap := h', toks := tk' }) :
    wpAny (model PySem.Challenge.rw_zn0008_01.row.prog w) (callerA.deeper (lawE lawScope L fa cd)) (exec (lawS 6) (lawE lawScope L fa cd)) Q E s := by
  refine law_open (st' := PySem.Stmt.If _ _ _ _) (sc' := ⟨_, _, _, _, _⟩) rfl rfl ?_
  refine Classical.byContradiction ?_; intro kG0
  obtain ⟨kw, vw, mW, hvw⟩ := hW.get
  have mW' := (S.hX _ mW).1
  obtain ⟨o3, m3, d3⟩ := S.c3
  rw [hv3] at d3
  obtain ⟨o1, m1, d1⟩ := S.c1
  refine kG0 ?_
  clear kG0
  rw [hv1] at d1
  revert X; k_fill; intro X
  k_steps
  refine' comp_evalJ ?S ?hn ?hcell ?hkind ?hx (fun i ys l => (∀ p ∈ news, p ∈ l) ∧ ∃ Y, (∀ p ∈ Y, p ∈ l ∧ @LT.lt Nat _ (L + 7) p.1) ∧ AllV (BookIn w Y) ys ((wss.take i).map fun ws => dueF (headsF ws))) ⟨fun p hp => hp, [], List.forall_mem_nil _, .nil⟩ ?step ?done
  case S => exact src_list rfl F N mW' rfl rfl
  case hn => have := hvw.length; rw [List.length_map] at this; omega
  case hcell => decide
  case hkind => rfl
  case hx => rfl
  case step =>
    intro i v ys news₁ h tk C D I lead hi' hv pz1 ld hlow F₁ N₁
    refine Classical.byContradiction ?_; intro kG0
    obtain ⟨hsub, Y, hY, hys⟩ := pz1
    obtain ⟨hs, hx, hi⟩ := hvw.get hv
    rw [List.getElem?_map] at hx
    obtain ⟨ws, hws, rfl⟩ := Option.map_eq_some_iff.mp hx
    obtain ⟨hwl, h4⟩ := hw.2 ws (List.mem_of_getElem? hws)
    have hlim : (headsF ws).length ≤ 20 ∧ ∀ h ∈ headsF ws, h.length ≤ 20 ∧ Four h := ⟨by rw [headsF_len]; omega, fun h hm => headsF_mem hm ⟨by omega, h4⟩⟩
    obtain ⟨oC, hC, hb⟩ := ld.cm
    have hC' : (C, oC) ∈ lead ++ news₁ := List.mem_append.mpr (.inl hC)
    obtain ⟨o7, m7, _⟩ := S.c7
    refine kG0 ?_
    clear kG0
    have m7' := List.mem_append.mpr (.inr (hsub _ m7) : _ ∈ lead ∨ _)
    have hh : HeadsIn (lead ++ news₁) v (headsF ws) := hi.mono fun p hp => List.mem_append.mpr (.inr (hsub p (S.hX p hp).1))
    refine wpAny_tests_nil ?_
    simp only [if_true]
    k_steps
    rename_i r tl h9 tk9 F9 N9 ord out
    exact EndC.grow F9 N9 ord ld (fun p hp => hp) ⟨fun p hp => List.mem_append.mpr (.inr (hsub p hp)), tl ++ Y, fun p hp => (List.mem_append.mp hp).elim (fun e => ⟨List.mem_append.mpr (.inl e), ord _ m7' p e⟩) (fun e => ⟨List.mem_append.mpr (.inr (hY p e).1), (hY p e).2⟩),
      by rw [takeMap_snoc _ hws]; exact (hys.mono fun _ _ x => x.mono fun p hp => List.mem_append.mpr (.inr hp)).snoc (out.mono fun p hp => List.mem_append.mpr (.inl hp))⟩
  case done =>
    intro D h tk ys news' kD F₁ N₁ hlow hap pz2
    refine Classical.byContradiction ?_; intro kG0
    obtain ⟨hsub, Y, hY, hys⟩ := pz2
    refine kG0 ?_
    clear kG0
    rw [show wss.take vw.length = wss from by rw [hvw.length, List.length_map, List.take_length]] at hys
    have S₁ : LSt L ((D, ({ cls := .type "list", data := .seq ys.toArray kD } : Obj)) :: news') Xs vs := S.grow fun p hp => .tail _ (hsub p hp)
    have hX2 : ∀ p ∈ (D, ({ cls := .type "list", data := .seq ys.toArray kD } : Obj)) :: (Y ++ Xs), p ∈ (D, ({ cls := .type "list", data := .seq ys.toArray kD } : Obj)) :: news' := fun p hp => by
      rcases List.mem_cons.mp hp with rfl | hp
      · exact List.mem_cons_self
      · rcases List.mem_append.mp hp with hp | hp
        · exact .tail _ (hY p hp).1
        · exact .tail _ (hsub p (S.hX p hp).1)
    have hA := hWb.mono (news' := (D, ({ cls := .type "list", data := .seq ys.toArray kD } : Obj)) :: (Y ++ Xs)) (fun p hp => .tail _ (List.mem_append.mpr (.inr hp))) fun _ _ x => x.mono fun p hp => .tail _ (List.mem_append.mpr (.inr hp))
    have hB : SeqIn "list" (BookIn w) ((D, ({ cls := .type "list", data := .seq ys.toArray kD } : Obj)) :: (Y ++ Xs)) (.ref D) (wss.map fun ws => dueF (headsF ws)) := ⟨D, kD, ys, rfl, List.mem_cons_self, hys.mono fun _ _ x => x.mono fun p hp => .tail _ (List.mem_append.mpr (.inl hp))⟩
    k_steps
    refine books_ne N₁ hX2 hA hB (by rw [List.length_map, List.length_map]) (fun i b c hb hc => ?_) (Nat.le_of_ble_eq_true rfl) ?_
    · rw [List.getElem?_map] at hb hc
      refine Classical.byContradiction ?_; intro kG0
      obtain ⟨ws, hws, rfl⟩ := Option.map_eq_some_iff.mp hb
      refine kG0 ?_
      clear kG0
      rw [hws] at hc
      cases hc
      exact hEq ws (List.mem_of_getElem? hws)
    k_steps
    exact k _ _ _ F₁ N₁ S₁
example : True := by w_top off; trivial
section
variable {w : World} {A : Around} {E : Value → Shared → Prop} {s : Shared} {h₀ : Heap} {L d : Addr} {m : Str → Option Value} {news : List (Addr × Obj)} {o : Obj} {kvs : List (Str × Value)}
theorem strs_of_keys : ∀ {vs : List Value} {kvs : List (Str × Value)}, vs.length = kvs.length → (∀ (j : Nat) (v : Value), vs[j]? = some v → ∃ k x, kvs[j]? = some (k, x) ∧ (SK w).is k v = true) → StrsAre vs (kvs.map (·.1))
  | [], [], _, _ => .nil
  | [], _ :: _, e, _ => by simp at e
  | _ :: _, [], e, _ => by simp at e
  | v :: vs, p :: kvs, e, h => by
    refine Classical.byContradiction ?_; intro kG0
    obtain ⟨k, x, hk, hi⟩ := h 0 v rfl
    simp at hk
    obtain ⟨t, rfl⟩ := Value.isStrOf_shape hi
    refine kG0 ?_
    clear kG0
    rw [List.map_cons, hk]
    exact .cons k t (strs_of_keys (by simpa using e) fun j v hj => h (j + 1) v (by simpa using hj))
theorem allV_of_strs : ∀ {vs : List Value} {ss : List Str}, StrsAre vs ss → AllV IsS vs ss
  | _, _, .nil => .nil
  | _, _, .cons _ t h => .cons ⟨t, rfl⟩ (allV_of_strs h)
theorem sorted_D {Q : Value → Shared → Prop} (hh : A.handled = none) (F : Fr h₀ L s.heap m) (N : News h₀ L s.heap news) (hp : (d, o) ∈ news) (hd : o.IsDictOf (SK w) kvs) (lo : (d == sysModules) = false) (hz : kvs.length < 64) (h0 : kvs ≠ [])
    (h : ∀ D h' tk vs k ss, Fr h₀ L h' m → News h₀ L h' ((D, ({ cls := .type "list", data := .seq (List.toArray vs) k } : Obj)) :: news) → (∀ q ∈ news, q.1 < D) → AllV IsS vs ss → ss.Perm (kvs.map (·.1)) → sortedS ss = true → Q (.ref D) { s with heap := h', toks := tk }) :
    wpAny (model PySem.Challenge.rw_zn0008_01.row.prog w) A (call (.builtin "sorted") [.ref d]) Q E s := by
  have hD := kda_dict (knd := SK w) N hp hd
  refine Classical.byContradiction ?_; intro kG0
  obtain ⟨ep, hat⟩ := hD.dictAt
  refine kG0 ?_
  clear kG0
  refine kdu_sorted (kdl_dict (knd := SK w) (kvs := kvs) (ep := ep) lo) hh F N hat (by rw [sizeLine_eq]; omega) fun D h' tk vs F' N' l1 hl hv => ?_
  have hS := strs_of_keys hl hv
  have z := N' (D, listOf vs.toArray 0) (.head _)
  refine wpAny_call_entry PyProof.Rows.slot_list_sort ⟨_, z.1, rfl⟩ PyProof.Rows.entry_list_sort (list_sort_treeK (κ := PyProof.Rows.strKind) (n := 0) (vs := vs) strKind_oneLt z.1 hS.keysOf (fun v₁ v₂ rest e => keyKind_strs (by rw [← e]; exact hS)) (by omega) fun st' hpm hst => ⟨.none, rfl, ?_⟩) (PyProof.Rows.args_list_sort _)
  refine Classical.byContradiction ?_; intro kG0
  obtain ⟨ss', h1, h2, h3⟩ := sorted_out_str hS hpm hst
  refine kG0 ?_
  clear kG0
  have hpos : vs.length ≠ 0 := by rw [hl]; exact fun e => h0 (List.eq_nil_of_length_eq_zero e)
  have hne : ∀ p ∈ news, p.1 ≠ D := fun p hp => Nat.ne_of_lt (l1 p hp)
  have hout : ((arrOf st').map (·.2)).size ≠ 0 := by
    have e1 := h1.length
    have e2 := h2.length_eq
    have e3 : ((arrOf st').map (·.2)).toList.length = ((arrOf st').map (·.2)).size := Array.length_toList
    rw [List.length_map] at e2
    omega
  have F1 : Fr h₀ L (h'.update D (Obj.mapSeq fun _ => (#[] : Array Value))) m := F'.change (Heap.SameBut.update ..) z.2.1 z.2.2
  have N1 := ki_turn (pre := []) (fun _ => (#[] : Array Value)) (its' := #[]) (n' := 1) N' (fun _ h => nomatch h) hne rfl (by rw [if_neg (by simpa using fun h => hpos (by rw [h]))])
  have N2 := News.grown N1 fun _ _ e => Heap.get?_push_of_some (seqObj "tuple" vs.toArray 0) e
  have N3 := News.grown N2 fun _ _ e => Heap.get?_push_of_some (seqObj "list" #[] 0) e
  have N4 := ki_turn (pre := []) (fun _ => (arrOf st').map (·.2)) (its' := (arrOf st').map (·.2)) (n' := 2) N3 (fun _ h => nomatch h) hne rfl (by rw [if_neg (by simpa using hout)])
  have F4 : Fr h₀ L ((((h'.update D (Obj.mapSeq fun _ => (#[] : Array Value))).push (seqObj "tuple" vs.toArray 0)).push (seqObj "list" #[] 0)).update D (Obj.mapSeq fun _ => (arrOf st').map (·.2))) m :=
    ((F1.push (seqObj "tuple" vs.toArray 0)).push (seqObj "list" #[] 0)).change (Heap.SameBut.update ..) z.2.1 z.2.2
  refine h D _ tk ((arrOf st').map (·.2)).toList 2 ss' F4 ?_ l1 (allV_of_strs h1) h2 h3
  rw [show ((arrOf st').map (·.2)).toList.toArray = (arrOf st').map (·.2) from Array.toArray_toList]
  exact N4
end
example : True := by
  k_with "call builtin:sorted" => (k_here; (with_reducible show wpAny _ _ (call (Value.builtin "sorted") [Value.ref _]) _ _ _); k_dflt (refine' sorted_D ?hh ?F ?N ?hp ?hd ?lo ?hz ?h0 ?_; (case hh => exact rfl); (case F => k_asm); (case N => k_asm); (case hp => first | assumption | (k_extra "zz mem")); (case hd => assumption); (case lo => assumption); (case hz => first | assumption | omega); (case h0 => assumption); k_whole); intro _ _ _ _ _ _ _ _ _ _ _ _; (try dsimp only); (try k_fold))
  trivial
example : True := by w_top off; trivial
/-- the order of texts, as a sort's own -/
noncomputable def leS (a b : Str) : Bool := !ltCps b.cps.toList a.cps.toList
noncomputable def sortC (l : List Str) : List Str := l.mergeSort leS
theorem leS_iff (a b : Str) : leS a b = true ↔ ¬ b.cps.toList < a.cps.toList := by
  unfold leS; rw [ltCps_eq]; simp
theorem leS_trans (a b c : Str) (h1 : leS a b = true) (h2 : leS b c = true) : leS a c = true := by
  rw [leS_iff] at *
  exact fun h => h1 (by
    rcases Decidable.em (b.cps.toList < a.cps.toList) with q | q
    · exact q
    · exact absurd (List.lt_of_le_of_lt (show b.cps.toList ≤ c.cps.toList from h2) h) h1)
theorem leS_total (a b : Str) : (leS a b || leS b a) = true := by
  rw [Bool.or_eq_true, leS_iff, leS_iff]
  rcases Decidable.em (b.cps.toList < a.cps.toList) with q | q
  · exact .inr fun h => List.lt_irrefl _ (List.lt_trans q h)
  · exact .inl q
theorem leS_anti {a b : Str} (h1 : leS a b = true) (h2 : leS b a = true) : a = b := by
  rw [leS_iff] at *
  exact str_ext (List.le_antisymm (show a.cps.toList ≤ b.cps.toList from h1) h2)
theorem rising_pair : ∀ (l : List Str) (p : Str), risingS p l = true → (p :: l).Pairwise fun a b => leS a b = true
  | [], p, _ => List.pairwise_cons.mpr ⟨List.forall_mem_nil _, .nil⟩
  | x :: r, p, h => by
    unfold risingS at h
    rw [Bool.and_eq_true] at h
    have ih := rising_pair r x h.2
    refine List.pairwise_cons.mpr ⟨fun y hy => ?_, ih⟩
    rcases List.mem_cons.mp hy with rfl | hy
    · exact h.1
    · exact leS_trans _ _ _ h.1 ((List.pairwise_cons.mp ih).1 y hy)
theorem sorted_pair {l : List Str} (h : sortedS l = true) : l.Pairwise fun a b => leS a b = true := by
  cases l with
  | nil => exact .nil
  | cons x r => exact rising_pair r x h
theorem perm_uniq : ∀ {a b : List Str}, a.Perm b → (a.Pairwise fun a b => leS a b = true) → (b.Pairwise fun a b => leS a b = true) → a = b
  | [], _, p, _, _ => p.nil_eq
  | x :: r, b, p, ha, hb => by
    cases b with
    | nil => exact absurd p.length_eq (by simp)
    | cons y t =>
      have hx : x ∈ y :: t := p.mem_iff.mp (.head _)
      have hy : y ∈ x :: r := p.mem_iff.mpr (.head _)
      have e : x = y := by
        rcases List.mem_cons.mp hx with h | h
        · exact h
        · rcases List.mem_cons.mp hy with h' | h'
          · exact h'.symm
          · exact leS_anti ((List.pairwise_cons.mp ha).1 y h') ((List.pairwise_cons.mp hb).1 x h)
      subst e
      rw [perm_uniq (List.Perm.cons_inv p) (List.pairwise_cons.mp ha).2 (List.pairwise_cons.mp hb).2]
theorem sortC_perm (l : List Str) : (sortC l).Perm l := List.mergeSort_perm l leS
theorem sortC_pair (l : List Str) : (sortC l).Pairwise fun a b => leS a b = true := List.pairwise_mergeSort leS_trans leS_total l
theorem sortC_of {l ss : List Str} (hp : ss.Perm l) (hs : sortedS ss = true) : ss = sortC l := perm_uniq (hp.trans (sortC_perm l).symm) (sorted_pair hs) (sortC_pair l)
theorem sortC_mem {l : List Str} {x : Str} : x ∈ sortC l ↔ x ∈ l := (sortC_perm l).mem_iff
theorem sortC_len (l : List Str) : (sortC l).length = l.length := (sortC_perm l).length_eq
/-- two lists without doubles, of the same members, sort alike -/
theorem sortC_eq {l k : List Str} (hl : l.Nodup) (hk : k.Nodup) : sortC l = sortC k ↔ ∀ x, x ∈ l ↔ x ∈ k := by
  constructor
  · intro e x; rw [← sortC_mem, e, sortC_mem]
  · intro e
    exact perm_uniq ((sortC_perm l).trans (((List.perm_ext_iff_of_nodup hl hk).mpr e).trans (sortC_perm k).symm)) (sortC_pair l) (sortC_pair k)
example : True := by w_top off; trivial
noncomputable def markS (n : Nat) : Stmt := match lawS 9 with | .For _ _ body _ _ => (body[n]?).getD (.Pass ⟨0, 0, 0, 0⟩) | _ => .Pass ⟨0, 0, 0, 0⟩
/-- the places on the straight way to a word's end -/
noncomputable def straightF (e : List Int) : List Str := (List.range e.length).map fun n => placeS (e.take (n + 1))
theorem straight_snoc {e : List Int} {i : Nat} (ys : List Str) (h : ys = (List.range i).map fun n => placeS (e.take (n + 1))) : ys ++ [placeS (e.take (i + 1))] = (List.range (i + 1)).map fun n => placeS (e.take (n + 1)) := by
  rw [List.range_succ, List.map_append, h]; rfl
theorem stmt_straight {w : World} {mean : ExcName → Option Value} {mg mb : Str → Option Value} {h₀ : Heap} {L fa Wy : Addr} {cd : Value} {m : Str → Option Value} {news Xs : List (Addr × Obj)} {vs : Nat → Option Value} {s : Shared} {Q : Flow → Shared → Prop} {E : Value → Shared → Prop} {wss : List (List Int)} {i : Nat} {t : Tok} {ws : List Int}
    (hl : wss.length ≤ 20) (hi : wss[i]? = some ws) (hw : ws.length ≤ 20 ∧ Four ws) (X : (lay.heap_1 w.params).In h₀) (T : Top V loo mean mg mb h₀) (B : Below callerA h₀ [] h₀) (F : Fr h₀ L s.heap m) (N : News h₀ L s.heap news)
    (S : LSt L news Xs vs) (hv3 : vs 3 = some (.ref Wy)) (hW : SeqIn "list" HeadsIn Xs (.ref Wy) (wss.map headsF)) (hv4 : vs 4 = some (.int (i : Int) t))
    (k : ∀ h' tk' D ys kD, Fr h₀ L h' (fun y => if y = Str.ofString "straight" then some (.ref D) else m y) → News h₀ L h' ((D, ({ cls := .type "list", data := .seq (List.toArray ys) kD } : Obj)) :: news) → (∀ p ∈ news, p.1 < D) → AllV IsS ys (straightF (headEnd ws)) → Q .next { s with heap := h', toks := tk' }) :
    wpAny (model PySem.Challenge.rw_zn0008_01.row.prog w) (callerA.deeper (lawE lawScope L fa cd)) (exec (markS 0) (lawE lawScope L fa cd)) Q E s := by
  refine law_open (st' := PySem.Stmt.Assign _ _ _) (sc' := ⟨_, _, _, _, _⟩) rfl rfl ?_
  refine Classical.byContradiction ?_; intro kG0
  obtain ⟨kw, vw, mW, hvw⟩ := hW.get
  have mW' := (S.hX _ mW).1
  obtain ⟨o3, m3, d3⟩ := S.c3
  rw [hv3] at d3
  obtain ⟨o4, m4, d4⟩ := S.c4
  rw [hv4] at d4
  obtain ⟨vh, hvh, hh, kh, vvh, rfl, mh, hvh2⟩ := hvw.get' (by rw [List.getElem?_map, hi]; rfl)
  have hlw := hvw.length
  rw [List.length_map] at hlw
  have hI1 : ItemIs vw (i : Int) (.ref hh) := ItemIs.pos hvh (by omega)
  obtain ⟨vl, hI2, al, kl, vvl, rfl, ml, hvl⟩ := head_last hvh2 hw.1
  refine kG0 ?_
  clear kG0
  have mh' := (S.hX _ mh).1
  have ml' := (S.hX _ ml).1
  have hel := headEnd_length ws
  have h4 := headEnd_four hw.2
  have hvll := hvl.length
  have hz : vvl.length ≤ 1000 := by omega
  revert X; k_fill; intro X
  k_steps
  rename_i h6 tk6 t6 u6 v6 hR F6 N6 up6
  clear up6
  refine' comp_localJ ?S ?hn ?hcell ?hkind ?hx ?hy ?hp (fun j ys l => (∀ p ∈ news, p ∈ l) ∧ AllV IsS ys ((List.range j).map fun n => placeS ((headEnd ws).take (n + 1)))) ⟨fun p hp => hp, .nil⟩ ?step ?done
  case S => exact src_range rfl hz F6 N6 hR
  case hn => omega
  case hcell => decide
  case hkind => rfl
  case hx => rfl
  case hy => with_unfolding_all rfl
  case hp => rfl
  case step =>
    intro j v ys news₁ h tk C D I lead hj pz1 pz2 ld hlow F₁ N₁
    refine Classical.byContradiction ?_; intro kG0
    obtain ⟨tj, rfl⟩ := pz1
    obtain ⟨hsub, hys⟩ := pz2
    obtain ⟨oC, hC, hb⟩ := ld.cm
    refine kG0 ?_
    clear kG0
    have hC' : (C, oC) ∈ lead ++ news₁ := List.mem_append.mpr (.inl hC)
    have up : ∀ p ∈ news, p ∈ lead ++ news₁ := fun p hp => List.mem_append.mpr (.inr (hsub p hp))
    have m3' := up _ m3
    have m4' := up _ m4
    have mW2 := up _ mW'
    have mh2 := up _ mh'
    have ml2 := up _ ml'
    have hcut : ((0 + (j : Int) + 1 = ((j + 1 : Nat) : Int) ∧ j + 1 ≤ vvl.length) ∨ (0 + (j : Int) + 1 < 0 ∧ 0 + (j : Int) + 1 + vvl.length = ((j + 1 : Nat) : Int))) ∧ vvl.length ≤ 1000 := ⟨.inl ⟨by omega, by omega⟩, hz⟩
    have hok : ((headEnd ws).take (j + 1)).length ≤ 20 ∧ Four ((headEnd ws).take (j + 1)) := ⟨by rw [List.length_take]; omega, fun k hk => h4 k (List.mem_of_mem_take hk)⟩
    refine wpAny_tests_nil ?_
    simp only [if_true]
    k_steps
    exact EndC.same (by assumption) (newsOf (by assumption) fun p hp => List.mem_append.mpr (.inr hp)) ld (fun p hp => hp) ⟨hsub, by rw [List.range_succ, List.map_append]; exact hys.snoc ⟨_, rfl⟩⟩
  case done =>
    intro D h tk ys news' kD F₁ N₁ hlow hap pz3
    refine Classical.byContradiction ?_; intro kG0
    obtain ⟨hsub, hys⟩ := pz3
    refine kG0 ?_
    clear kG0
    exact k _ _ D ys kD F₁ (newsOf N₁ fun p hp => (List.mem_cons.mp hp).elim (fun e => e ▸ List.mem_cons_self) fun e => .tail _ (hsub p e)) hlow (by unfold straightF; rw [← hvll]; exact hys)
example : True := by w_top off; trivial
section
variable {w : World} {A : Around} {E : Value → Shared → Prop} {s : Shared} {h₀ : Heap} {L d : Addr} {news : List (Addr × Obj)} {o : Obj} {kvs : List (Str × Value)} {x y : Str} {t u : Tok} {Q : Value → Shared → Prop}
theorem eq_str_f (hn : (x == y) = false) (h : Q (.bool false) s) : wpAny (model PySem.Challenge.rw_zn0008_01.row.prog w) A (compareOp .Eq (.str x t) (.str y u)) Q E s := eq_str (by rw [hn]; exact h)
theorem eq_str_t (hn : (x == y) = true) (h : Q (.bool true) s) : wpAny (model PySem.Challenge.rw_zn0008_01.row.prog w) A (compareOp .Eq (.str x t) (.str y u)) Q E s := eq_str (by rw [hn]; exact h)
theorem ne_str_f (hn : x = y) (h : Q (.bool false) s) : wpAny (model PySem.Challenge.rw_zn0008_01.row.prog w) A (compareOp .NotEq (.str x t) (.str y u)) Q E s := ne_str (by subst hn; simpa using h)
theorem ne_str_t (hn : x ≠ y) (h : Q (.bool true) s) : wpAny (model PySem.Challenge.rw_zn0008_01.row.prog w) A (compareOp .NotEq (.str x t) (.str y u)) Q E s := ne_str (by rw [show (x != y) = true from bne_iff_ne.mpr hn]; exact h)
theorem ne_int_f {i j : Int} (hn : i = j) (h : Q (.bool false) s) : wpAny (model PySem.Challenge.rw_zn0008_01.row.prog w) A (compareOp .NotEq (.int i t) (.int j u)) Q E s := ne_int (by subst hn; simpa using h)
theorem eq_int_f {i j : Int} (hn : i ≠ j) (h : Q (.bool false) s) : wpAny (model PySem.Challenge.rw_zn0008_01.row.prog w) A (compareOp .Eq (.int i t) (.int j u)) Q E s := eq_int (by rw [show (i == j) = false from beq_eq_false_iff_ne.mpr hn]; exact h)
theorem eq_int_t {i j : Int} (hn : i = j) (h : Q (.bool true) s) : wpAny (model PySem.Challenge.rw_zn0008_01.row.prog w) A (compareOp .Eq (.int i t) (.int j u)) Q E s := eq_int (by subst hn; simpa using h)
theorem get_m {pl : Sem Bool} {Q : Value × List Value → Shared → Prop} (N : News h₀ L s.heap news) (hp : (d, o) ∈ news) (hd : o.IsDictOf (SK w) kvs) (h : Q (.builtin "dict.get", [.ref d]) s) :
    wpAny (model PySem.Challenge.rw_zn0008_01.row.prog w) A (getMethod (.ref d) (Str.ofString "get") pl) Q E s := kdg_method (knd := SK w) N hp hd h
theorem get_DI {c : List (Str × Int)} (N : News h₀ L s.heap news) (hp : (d, o) ∈ news) (hd : o.IsDictOf (SK w) kvs) (lo : (d == sysModules) = false) (hal : AllKV IsI kvs c)
    (h : ∀ t, Q (.int ((lookK c x).getD 0) t) { s with toks := s.toks + 1 }) : wpAny (model PySem.Challenge.rw_zn0008_01.row.prog w) A (call (.builtin "dict.get") [.ref d, .str x t, .int 0 u]) Q E s := by
  rcases hal.look (k := x) with ⟨h1, h2⟩ | ⟨v, a, h1, h2, t', rfl⟩
  · refine kdg_get2 (knd := SK w) N hp hd lo (strKind_is _ _ _ _) none h1 ?_
    have := h u
    rw [h2] at this
    exact this
  · refine kdg_get2 (knd := SK w) N hp hd lo (strKind_is _ _ _ _) (some (.int a t')) h1 ?_
    have := h t'
    rw [h2] at this
    exact this
theorem in_LS {a : Addr} {vs : List Value} {k : Nat} {st : List Str} (N : News h₀ L s.heap news) (hm : (a, ({ cls := .type "list", data := .seq (List.toArray vs) k } : Obj)) ∈ news) (hi : AllV IsS vs st) (h : Q (.bool (decide (x ∈ st))) s) :
    wpAny (model PySem.Challenge.rw_zn0008_01.row.prog w) A (compareOp .In (.str x t) (.ref a)) Q E s := by
  refine in_list_strs (isList_of N hm) hi.strs ?_
  have e : (st.any fun y => y == x) = decide (x ∈ st) := by rw [Bool.eq_iff_iff, List.any_eq_true, decide_eq_true_eq]; exact ⟨fun ⟨y, hy, e⟩ => by rw [← eq_of_beq e]; exact hy, fun hx => ⟨x, hx, beq_self_eq_true x⟩⟩
  first | exact h | (rw [e]; exact h) | simpa [e] using h
theorem in_LSt {a : Addr} {vs : List Value} {k : Nat} {st : List Str} (N : News h₀ L s.heap news) (hm : (a, ({ cls := .type "list", data := .seq (List.toArray vs) k } : Obj)) ∈ news) (hi : AllV IsS vs st) (hx : x ∈ st) (h : Q (.bool true) s) :
    wpAny (model PySem.Challenge.rw_zn0008_01.row.prog w) A (compareOp .In (.str x t) (.ref a)) Q E s := in_LS N hm hi (by rw [decide_eq_true hx]; exact h)
theorem in_LSf {a : Addr} {vs : List Value} {k : Nat} {st : List Str} (N : News h₀ L s.heap news) (hm : (a, ({ cls := .type "list", data := .seq (List.toArray vs) k } : Obj)) ∈ news) (hi : AllV IsS vs st) (hx : x ∉ st) (h : Q (.bool false) s) :
    wpAny (model PySem.Challenge.rw_zn0008_01.row.prog w) A (compareOp .In (.str x t) (.ref a)) Q E s := in_LS N hm hi (by rw [decide_eq_false hx]; exact h)
end
example : True := by
  k_with "compareOp Eq str str" => (k_here; k_dflt (first | refine eq_str_f (by assumption) ?_ | refine eq_str_t (by assumption) ?_))
  trivial
example : True := by
  k_with "compareOp NotEq str str" => (k_here; k_dflt (first | refine ne_str_f (by assumption) ?_ | refine ne_str_t (by assumption) ?_))
  trivial
example : True := by
  k_with "compareOp NotEq int int" => (k_here; k_dflt (first | refine ne_int_f (by first | rfl | assumption) ?_))
  trivial
example : True := by
  k_with "compareOp Eq int int" => (k_here; k_dflt (first | refine eq_int_f (by assumption) ?_ | refine eq_int_t (by assumption) ?_))
  trivial
example : True := by
  k_with "getMethod ref" => (k_here; (with_reducible show wpAny _ _ (getMethod (Value.ref _) (Str.ofString "get") _) _ _ _); k_dflt (refine' get_m ?N ?hp ?hd ?_; (case N => k_asm); (case hp => first | assumption | (k_extra "zz mem")); (case hd => assumption); k_whole))
  trivial
example : True := by
  k_with "call builtin:dict.get" => (k_here; k_dflt (refine' get_DI ?N ?hp ?hd ?lo ?hal ?_; (case N => k_asm); (case hp => first | assumption | (k_extra "zz mem")); (case hd => assumption); (case lo => assumption); (case hal => assumption); k_whole); intro _; (try dsimp only); (try k_fold))
  trivial
example : True := by
  k_with "compareOp In str ref" => (k_here; k_dflt (first | (refine' in_LSt ?N ?hm ?hi ?hx ?_; (case N => k_asm); (case hm => first | assumption | (k_extra "zz mem")); (case hi => assumption); (case hx => assumption); k_whole) | (refine' in_LSf ?N ?hm ?hi ?hx ?_; (case N => k_asm); (case hm => first | assumption | (k_extra "zz mem")); (case hi => assumption); (case hx => assumption); k_whole)))
  trivial
example : True := by w_top off; trivial
/-- the place ahead of a place, as the law cuts it -/
noncomputable def aheadS (x : Str) : Str := Txt.slice x (some 1) (some (-2))
/-- what the law asks of one place of a book -/
noncomputable def MarkOk (b : List (Str × Stat)) (st : List Str) : Prop := ∀ x q, lookK b x = some q → x.length ≤ 1000 ∧
  if x = Str.ofString "" then x ∉ st ∧ (q.cal.map (·.2)).sum = q.nc - 1
  else (q.cal.map (·.2)).sum = q.nc ∧ ∃ c r, lookK q.cal (aheadS x) = some c ∧ lookK b (aheadS x) = some r ∧ c - (lookK r.cal x).getD 0 = if x ∈ st then 1 else 0
noncomputable def onwardF (ks st : List Str) : List Str := (sortC ks).filter fun x => decide (x ∈ st)
theorem lookK_none {α : Type} {b : List (Str × α)} {x : Str} : lookK b x = none ↔ x ∉ keysOf b := by
  unfold lookK keysOf
  rw [Option.map_eq_none_iff, List.find?_eq_none]
  simp
  constructor
  · intro h y hy; exact h x y hy rfl
  · intro h a y hy e; exact h y (e ▸ hy)
theorem filter_snocN {ss st : List Str} {j : Nat} {x : Str} (hx : ss[j]? = some x) (hn : x ∉ st) : (ss.take (j + 1)).filter (fun x => decide (x ∈ st)) = (ss.take j).filter fun x => decide (x ∈ st) := by
  rw [List.take_succ_eq_append_getElem (List.getElem?_eq_some_iff.mp hx).1, (List.getElem?_eq_some_iff.mp hx).2, List.filter_append, List.filter_cons_of_neg (by simpa using hn), List.filter_nil, List.append_nil]
theorem filter_snocP {ss st : List Str} {j : Nat} {x : Str} (hx : ss[j]? = some x) (hn : x ∈ st) : (ss.take (j + 1)).filter (fun x => decide (x ∈ st)) = ((ss.take j).filter fun x => decide (x ∈ st)) ++ [x] := by
  rw [List.take_succ_eq_append_getElem (List.getElem?_eq_some_iff.mp hx).1, (List.getElem?_eq_some_iff.mp hx).2, List.filter_append, List.filter_cons_of_pos (by simpa using hn), List.filter_nil]
noncomputable def NamesJ (D1 : Addr) (vss : List Value) (kss : Nat) (news : List (Addr × Obj)) (Ds Do Dm De : Addr) (st ss : List Str) (j : Nat) (m' : Str → Option Value) (l : List (Addr × Obj)) : Prop :=
  m' (Str.ofString "straight") = some (.ref Ds) ∧ m' (Str.ofString "onward") = some (.ref Do) ∧ m' (Str.ofString "marks") = some (.ref Dm) ∧ m' (Str.ofString "ends") = some (.ref De) ∧ (∀ p ∈ (D1, ({ cls := .type "list", data := .seq vss.toArray kss } : Obj)) :: news, p.1 ≠ Do → p ∈ l) ∧ ∃ zs kz, (Do, ({ cls := .type "list", data := .seq (List.toArray zs) kz } : Obj)) ∈ l ∧ AllV IsS zs ((ss.take j).filter fun x => decide (x ∈ st))
theorem stmt_names {w : World} {mean : ExcName → Option Value} {mg mb : Str → Option Value} {h₀ : Heap} {L fa Wb Ds Do Dm De : Addr} {cd : Value} {m : Str → Option Value} {news Xs : List (Addr × Obj)} {vs : Nat → Option Value} {s : Shared} {Q : Flow → Shared → Prop} {E : Value → Shared → Prop} {bs : List (List (Str × Stat))} {i : Nat} {t : Tok} {b : List (Str × Stat)} {st : List Str} {ys : List Value} {ks ko : Nat}
    (hl : bs.length ≤ 20) (hi : bs[i]? = some b) (hb : b.length ≤ 60 ∧ b ≠ []) (hM : MarkOk b st) (X : (lay.heap_1 w.params).In h₀) (T : Top V loo mean mg mb h₀) (B : Below callerA h₀ [] h₀) (F : Fr h₀ L s.heap m) (N : News h₀ L s.heap news)
    (S : LSt L news Xs vs) (hv1 : vs 1 = some (.ref Wb)) (hW : SeqIn "list" (BookIn w) Xs (.ref Wb) bs) (hv4 : vs 4 = some (.int (i : Int) t))
    (ms : m (Str.ofString "straight") = some (.ref Ds)) (mds : (Ds, ({ cls := .type "list", data := .seq (List.toArray ys) ks } : Obj)) ∈ news) (hys : AllV IsS ys st)
    (mo : m (Str.ofString "onward") = some (.ref Do)) (mdo : (Do, ({ cls := .type "list", data := .seq #[] ko } : Obj)) ∈ news) (hDo : Ds ≠ Do ∧ @LT.lt Nat _ (L + 7) Do ∧ ∀ p ∈ Xs, p.1 ≠ Do)
    (mm : m (Str.ofString "marks") = some (.ref Dm)) (me : m (Str.ofString "ends") = some (.ref De))
    (k : ∀ h' tk' m' news' zs kz, Fr h₀ L h' m' → News h₀ L h' ((Do, ({ cls := .type "list", data := .seq (List.toArray zs) kz } : Obj)) :: news') → (∀ p ∈ news, p.1 ≠ Do → p ∈ news') → AllV IsS zs (onwardF (keysOf b) st) →
      m' (Str.ofString "onward") = some (.ref Do) → m' (Str.ofString "marks") = some (.ref Dm) → m' (Str.ofString "ends") = some (.ref De) → Q .next { s with heap := h', toks := tk' }) :
    wpAny (model PySem.Challenge.rw_zn0008_01.row.prog w) (callerA.deeper (lawE lawScope L fa cd)) (exec (markS 2) (lawE lawScope L fa cd)) Q E s := by
  refine law_open (st' := PySem.Stmt.For _ _ _ _ _) (sc' := ⟨_, _, _, _, _⟩) rfl rfl ?_
  refine Classical.byContradiction ?_; intro kG0
  obtain ⟨kw, vw, mW, hvw⟩ := hW.get
  have mW' := (S.hX _ mW).1
  obtain ⟨o1, m1, d1⟩ := S.c1
  rw [hv1] at d1
  obtain ⟨o4, m4, d4⟩ := S.c4
  rw [hv4] at d4
  obtain ⟨vb, hvb, db, ob, kvs, rfl, mdb, hdb, lob, hal⟩ := hvw.get' hi
  refine kG0 ?_
  clear kG0
  have hlw := hvw.length
  have hI1 : ItemIs vw (i : Int) (.ref db) := ItemIs.pos hvb (by omega)
  have mdb' := (S.hX _ mdb).1
  have hkl := hal.length
  have hkz : kvs.length < 64 := by omega
  have hk0 : kvs ≠ [] := fun e => hb.2 (List.eq_nil_of_length_eq_zero (by rw [← hkl, e]; rfl))
  revert X; k_fill; intro X
  have hms := map_put ms
  have hmo := map_put mo
  have hmm := map_put mm
  have hme := map_put me
  rw [hms, hmo, hmm, hme] at F
  k_steps
  rename_i D1 h1 tk1 vss kss ss F1 N1 l1 hvs hpm hst
  have hss : ss = sortC (keysOf b) := sortC_of (by rw [show keysOf b = kvs.map (·.1) from hal.keys.symm]; exact hpm) hst
  have hvl := hvs.length
  have hpl := hpm.length_eq
  rw [List.length_map] at hpl
  refine' for_src (S := ?S) ?hx ?hp (NamesJ D1 vss kss news Ds Do Dm De st ss) ?h0 ?step ?done
  case S => exact src_list rfl F1 N1 List.mem_cons_self rfl rfl
  case hx => with_unfolding_all rfl
  case hp => rfl
  case h0 => exact ⟨rfl, rfl, rfl, rfl, fun p hp _ => hp, [], ko, .tail _ mdo, .nil⟩
  case step =>
    intro j v m₁ news₁ h tk own I hj hv pz1 hnI pz2 hown hlt Fg Ng
    refine Classical.byContradiction ?_; intro kG0
    obtain ⟨n1, n2, n3, n4, hsub, zs, kz, mz, hzs⟩ := pz1
    obtain ⟨oI, hoI⟩ := pz2
    rw [map_put n1, map_put n2, map_put n3, map_put n4] at Fg
    obtain ⟨x, hx, tx, rfl⟩ := hvs.get hv
    refine kG0 ?_
    clear kG0
    have hxk : x ∈ keysOf b := sortC_mem.mp (hss ▸ List.mem_of_getElem? hx)
    have up : ∀ p ∈ news, p.1 ≠ Do → p ∈ own ++ news₁ := fun p hp q => List.mem_append.mpr (.inr (hsub p (.tail _ hp) q))
    have upX : ∀ p ∈ Xs, p ∈ own ++ news₁ := fun p hp => up p (S.hX p hp).1 (hDo.2.2 p hp)
    have m1' := up _ m1 (neN (by have := hDo.2.1; show @Ne Nat (L + 1) Do; omega))
    have m4' := up _ m4 (neN (by have := hDo.2.1; show @Ne Nat (L + 1 + 1 + 1 + 1) Do; omega))
    have mds' := up _ mds hDo.1
    have mW2 := upX _ mW
    have mdb2 := upX _ mdb
    have mz' : (Do, ({ cls := .type "list", data := .seq (List.toArray zs) kz } : Obj)) ∈ own ++ news₁ := List.mem_append.mpr (.inr mz)
    have hzz : zs.length ≤ 1000 := by have := hzs.length; have := List.length_filter_le (fun x => decide (x ∈ st)) (ss.take j); have : (ss.take j).length ≤ ss.length := List.length_take_le' _ _; omega
    rcases hal.look (k := x) with ⟨hn', hlk⟩ | ⟨vq, q, hvq, hlk, hq⟩
    · exact absurd hxk ((lookK_none).mp hlk)
    refine Classical.byContradiction ?_; intro kG0
    obtain ⟨aq, nq, t1, t2, t3, t4, cv, rfl, maq, hcal⟩ := hq
    have maq' := upX _ maq
    have hcal' := hcal.mono upX
    have hI5 : ItemIs [.int q.cc t1, .int q.nc t2, .int q.tt t3, .int q.ct t4, cv] 4 cv := ⟨Nat.le_of_ble_eq_true rfl, .inl ⟨by decide, rfl⟩⟩
    have hI6 : ItemIs [.int q.cc t1, .int q.nc t2, .int q.tt t3, .int q.ct t4, cv] 1 (.int q.nc t2) := ⟨Nat.le_of_ble_eq_true rfl, .inl ⟨by decide, rfl⟩⟩
    obtain ⟨hxl, hcase⟩ := hM x q hlk
    refine kG0 ?_
    clear kG0
    by_cases he : x = Str.ofString ""
    · subst he
      rw [if_pos rfl] at hcase
      k_steps
      rename_i r9 tl9 h9 tk9 F9 N9 ord9 out9
      refine Classical.byContradiction ?_; intro kG0
      obtain ⟨t9, rfl⟩ := out9
      refine kG0 ?_
      clear kG0
      rw [hcase.2]
      k_steps
      exact EndJ.same F9 (newsOf N9 fun p hp => List.mem_append.mpr (.inr hp)) hnI ⟨rfl, rfl, rfl, rfl, hsub, zs, kz, mz, by rw [filter_snocN hx hcase.1]; exact hzs⟩
    · rw [if_neg he] at hcase
      have hxe : (x == Str.ofString "") = false := by simpa using he
      refine Classical.byContradiction ?_; intro kG0
      obtain ⟨hsum, cq, r, hca, hr, hmore⟩ := hcase
      obtain ⟨dt, ot, kvt, rfl, mdt, hdt, lot, halt⟩ := hcal
      refine kG0 ?_
      clear kG0
      have mdt' := upX _ mdt
      rcases halt.look (k := aheadS x) with ⟨_, hno⟩ | ⟨va, ca, hva, hca', ta, rfl⟩
      · rw [hno] at hca; cases hca
      rw [hca] at hca'; cases hca'
      rcases hal.look (k := aheadS x) with ⟨_, hno⟩ | ⟨vr, r', hvr, hr', ar, nr, u1, u2, u3, u4, cvr, rfl, mar, hcalr⟩
      · rw [hno] at hr; cases hr
      rw [hr] at hr'; cases hr'
      refine Classical.byContradiction ?_; intro kG0
      obtain ⟨dr, or, kvr, rfl, mdr, hdr, lor, halr⟩ := hcalr
      refine kG0 ?_
      clear kG0
      have mar' := upX _ mar
      have mdr' := upX _ mdr
      have hI7 : ItemIs [.int r.cc u1, .int r.nc u2, .int r.tt u3, .int r.ct u4, .ref dr] 4 (.ref dr) := ⟨Nat.le_of_ble_eq_true rfl, .inl ⟨by decide, rfl⟩⟩
      k_steps
      rename_i r9 tl9 h9 tk9 F9 N9 ord9 out9
      refine Classical.byContradiction ?_; intro kG0
      obtain ⟨t9, rfl⟩ := out9
      refine kG0 ?_
      clear kG0
      rw [hsum]
      have N9' : News _ _ _ (own ++ news₁) := newsOf N9 fun p hp => List.mem_append.mpr (.inr hp)
      clear N9 ord9 tl9
      by_cases hin : x ∈ st
      · rw [if_pos hin] at hmore
        k_steps
        have hDI : Do ≠ I := hnI _ mz
        exact EndJ.put (by assumption) (by assumption) (fun p hp => (hown p hp).elim (fun e q => hDI (q.symm.trans e)) fun e q => by injection e with e; exact absurd (l1 _ mdo) (by rw [e, q]; exact Nat.lt_irrefl _)) hDI hnI
          ⟨rfl, rfl, rfl, rfl, fun p hp q => mem_put (hsub p hp q) q, _, _, List.mem_cons_self, by rw [filter_snocP hx hin]; exact hzs.snoc ⟨_, rfl⟩⟩
      · rw [if_neg hin] at hmore
        have hm0 : cq - (lookK r.cal x).getD 0 ≠ 1 := by omega
        k_steps
        exact EndJ.same (by assumption) (by assumption) hnI ⟨rfl, rfl, rfl, rfl, hsub, zs, kz, mz, by rw [filter_snocN hx hin]; exact hzs⟩
  case done =>
    intro h tk m' l Fg Ng pz3
    refine Classical.byContradiction ?_; intro kG0
    obtain ⟨n1, n2, n3, n4, hsub, zs, kz, mz, hzs⟩ := pz3
    refine kG0 ?_
    clear kG0
    rw [show ss.take vss.length = ss from by rw [hvl, List.take_length], hss] at hzs
    exact k h tk m' (rmA Do l) zs kz Fg (newsOf Ng fun p hp => (List.mem_cons.mp hp).elim (fun e => e ▸ mz) fun e => (mem_rm.mp e).1) (fun p hp q => mem_rm.mpr ⟨hsub p (.tail _ hp) q, q⟩) hzs n2 n3 n4
example : True := by w_top off; trivial
theorem stmt_onward {w : World} {mean : ExcName → Option Value} {mg mb : Str → Option Value} {h₀ : Heap} {L fa : Addr} {cd : Value} {m : Str → Option Value} {news : List (Addr × Obj)} {s : Shared} {Q : Flow → Shared → Prop} {E : Value → Shared → Prop}
    (X : (lay.heap_1 w.params).In h₀) (T : Top V loo mean mg mb h₀) (B : Below callerA h₀ [] h₀) (F : Fr h₀ L s.heap m) (N : News h₀ L s.heap news)
    (k : ∀ h' tk' D kD, Fr h₀ L h' (fun y => if y = Str.ofString "onward" then some (.ref D) else m y) → News h₀ L h' ((D, ({ cls := .type "list", data := .seq #[] kD } : Obj)) :: news) → (∀ p ∈ news, p.1 < D) → Q .next { s with heap := h', toks := tk' }) :
    wpAny (model PySem.Challenge.rw_zn0008_01.row.prog w) (callerA.deeper (lawE lawScope L fa cd)) (exec (markS 1) (lawE lawScope L fa cd)) Q E s := by
  refine law_open (st' := PySem.Stmt.Assign _ _ _) (sc' := ⟨_, _, _, _, _⟩) rfl rfl ?_
  revert X; k_fill; intro X
  k_steps
  exact k _ _ _ 0 (by assumption) (by assumption) (by assumption)
theorem stmt_append {w : World} {mean : ExcName → Option Value} {mg mb : Str → Option Value} {h₀ : Heap} {L fa Wb Do Dm : Addr} {cd : Value} {m : Str → Option Value} {news Xs : List (Addr × Obj)} {vs : Nat → Option Value} {s : Shared} {Q : Flow → Shared → Prop} {E : Value → Shared → Prop} {bs : List (List (Str × Stat))} {i : Nat} {t : Tok} {b : List (Str × Stat)} {vsM : List Value} {kM : Nat}
    (hl : bs.length ≤ 20) (hi : bs[i]? = some b) (hb : b.length ≤ 60 ∧ b ≠ []) (X : (lay.heap_1 w.params).In h₀) (T : Top V loo mean mg mb h₀) (B : Below callerA h₀ [] h₀) (F : Fr h₀ L s.heap m) (N : News h₀ L s.heap news)
    (S : LSt L news Xs vs) (hv1 : vs 1 = some (.ref Wb)) (hW : SeqIn "list" (BookIn w) Xs (.ref Wb) bs) (hv4 : vs 4 = some (.int (i : Int) t))
    (mo : m (Str.ofString "onward") = some (.ref Do)) (mm : m (Str.ofString "marks") = some (.ref Dm)) (mdm : (Dm, ({ cls := .type "list", data := .seq (List.toArray vsM) kM } : Obj)) ∈ news) (hz : vsM.length ≤ 20)
    (k : ∀ h' tk' D1 T1 vss kss nT k', Fr h₀ L h' m → News h₀ L h' ((Dm, ({ cls := .type "list", data := .seq (List.toArray (vsM ++ [.ref T1])) k' } : Obj)) :: rmA Dm ((T1, ({ cls := .type "tuple", data := .seq #[.ref D1, .ref Do] nT } : Obj)) :: (D1, ({ cls := .type "list", data := .seq (List.toArray vss) kss } : Obj)) :: news)) →
      (∀ p ∈ news, p.1 < D1 ∧ p.1 < T1) → AllV IsS vss (sortC (keysOf b)) → Q .next { s with heap := h', toks := tk' }) :
    wpAny (model PySem.Challenge.rw_zn0008_01.row.prog w) (callerA.deeper (lawE lawScope L fa cd)) (exec (markS 3) (lawE lawScope L fa cd)) Q E s := by
  refine law_open (st' := PySem.Stmt.Expr _ _) (sc' := ⟨_, _, _, _, _⟩) rfl rfl ?_
  refine Classical.byContradiction ?_; intro kG0
  obtain ⟨kw, vw, mW, hvw⟩ := hW.get
  have mW' := (S.hX _ mW).1
  obtain ⟨o1, m1, d1⟩ := S.c1
  rw [hv1] at d1
  obtain ⟨o4, m4, d4⟩ := S.c4
  rw [hv4] at d4
  obtain ⟨vb, hvb, db, ob, kvs, rfl, mdb, hdb, lob, hal⟩ := hvw.get' hi
  refine kG0 ?_
  clear kG0
  have hlw := hvw.length
  have hI1 : ItemIs vw (i : Int) (.ref db) := ItemIs.pos hvb (by omega)
  have mdb' := (S.hX _ mdb).1
  have hkl := hal.length
  have hkz : kvs.length < 64 := by omega
  have hk0 : kvs ≠ [] := fun e => hb.2 (List.eq_nil_of_length_eq_zero (by rw [← hkl, e]; rfl))
  have hz' : vsM.length ≤ 1000 := by omega
  revert X; k_fill; intro X
  have hmo := map_put mo
  have hmm := map_put mm
  rw [hmo, hmm] at F
  k_steps
  rename_i D1 h1 tk1 vss kss ss l1 hvs hpm hst T1 h2 F2 N2 l2 h3 k3 F3 N3
  rw [← hmm, ← hmo] at F3
  exact k _ _ D1 T1 vss kss 0 k3 F3 N3 (fun p hp => ⟨l1 p hp, ofAllLt l2.2 p hp⟩) (by rw [← sortC_of (by rw [show keysOf b = kvs.map (·.1) from hal.keys.symm]; exact hpm) hst]; exact hvs)
/-- what the law keeps of a word's book: its places in order, and those on the straight way -/
noncomputable def markF (ws : List Int) : List Str × List Str := (sortC (keysOf (bookF (ws.map cOf))), onwardF (keysOf (bookF (ws.map cOf))) (straightF (headEnd ws)))
noncomputable def MarkIn (news : List (Addr × Obj)) (v : Value) (p : List Str × List Str) : Prop :=
  ∃ a n x y, v = .ref a ∧ (a, ({ cls := .type "tuple", data := .seq #[x, y] n } : Obj)) ∈ news ∧ StrsIn news x p.1 ∧ StrsIn news y p.2
theorem MarkIn.mono {news news' : List (Addr × Obj)} {v : Value} {p : List Str × List Str} (h : MarkIn news v p) (hs : ∀ p ∈ news, p ∈ news') : MarkIn news' v p := by
  obtain ⟨a, n, x, y, e, m, h1, h2⟩ := h
  exact ⟨a, n, x, y, e, hs _ m, SeqIn.mono h1 hs fun _ _ q => q, SeqIn.mono h2 hs fun _ _ q => q⟩
example : True := by w_top off; trivial
theorem LSt.growBut {L d : Addr} {news news' X : List (Addr × Obj)} {vs : Nat → Option Value} (h : LSt L news X vs) (hd : @LT.lt Nat _ (L + 7) d ∧ ∀ p ∈ X, p.1 ≠ d) (hs : ∀ p ∈ news, p.1 ≠ d → p ∈ news') : LSt L news' X vs := by
  have c : ∀ (a : Addr) (j : Nat), a = L + j → j ≤ 7 → ∀ o, (a, o) ∈ news → (a, o) ∈ news' := fun a j e hj o hm => hs _ hm (neN (by have := hd.1; show @Ne Nat a d; rw [e]; omega))
  exact ⟨fun p hp => ⟨hs p (h.hX p hp).1 (hd.2 p hp), (h.hX p hp).2⟩, h.c1.imp fun _ q => ⟨c _ 1 rfl (by decide) _ q.1, q.2⟩, h.c2.imp fun _ q => ⟨c _ 2 rfl (by decide) _ q.1, q.2⟩, h.c3.imp fun _ q => ⟨c _ 3 rfl (by decide) _ q.1, q.2⟩,
    h.c4.imp fun _ q => ⟨c _ 4 rfl (by decide) _ q.1, q.2⟩, h.c5.imp fun _ q => ⟨c _ 5 rfl (by decide) _ q.1, q.2⟩, h.c6.imp fun _ q => ⟨c _ 6 rfl (by decide) _ q.1, q.2⟩, h.c7.imp fun _ q => ⟨c _ 7 rfl (by decide) _ q.1, q.2⟩⟩
theorem stmt_marks {w : World} {mean : ExcName → Option Value} {mg mb : Str → Option Value} {h₀ : Heap} {L fa Wb Wy Dm De : Addr} {cd : Value} {m : Str → Option Value} {news Xs : List (Addr × Obj)} {vs : Nat → Option Value} {s : Shared} {Q : Flow → Shared → Prop} {E : Value → Shared → Prop} {wss : List (List Int)} {km : Nat}
    (hw4 : wss.length = 4) (hw : ∀ ws ∈ wss, ws.length ≤ 19 ∧ Four ws) (hM : ∀ ws ∈ wss, MarkOk (bookF (ws.map cOf)) (straightF (headEnd ws))) (hbz : ∀ ws ∈ wss, (bookF (ws.map cOf)).length ≤ 60 ∧ bookF (ws.map cOf) ≠ [])
    (X : (lay.heap_1 w.params).In h₀) (T : Top V loo mean mg mb h₀) (B : Below callerA h₀ [] h₀) (F : Fr h₀ L s.heap m) (N : News h₀ L s.heap news)
    (S : LSt L news Xs vs) (hv1 : vs 1 = some (.ref Wb)) (hWb : SeqIn "list" (BookIn w) Xs (.ref Wb) (wss.map fun ws => bookF (ws.map cOf))) (hv3 : vs 3 = some (.ref Wy)) (hW : SeqIn "list" HeadsIn Xs (.ref Wy) (wss.map headsF))
    (mm : m (Str.ofString "marks") = some (.ref Dm)) (mdm : (Dm, ({ cls := .type "list", data := .seq #[] km } : Obj)) ∈ news) (hDm : @LT.lt Nat _ (L + 7) Dm ∧ ∀ p ∈ Xs, p.1 ≠ Dm) (me : m (Str.ofString "ends") = some (.ref De))
    (k : ∀ h' tk' m' news' Xs' vs', Fr h₀ L h' m' → News h₀ L h' news' → LSt L news' Xs' vs' → (∀ j, j ≠ 4 → vs' j = vs j) → (∀ p ∈ Xs, p ∈ Xs') → SeqIn "list" MarkIn Xs' (.ref Dm) (wss.map markF) → m' (Str.ofString "marks") = some (.ref Dm) → m' (Str.ofString "ends") = some (.ref De) → Q .next { s with heap := h', toks := tk' }) :
    wpAny (model PySem.Challenge.rw_zn0008_01.row.prog w) (callerA.deeper (lawE lawScope L fa cd)) (exec (lawS 9) (lawE lawScope L fa cd)) Q E s := by
  refine law_open (st' := PySem.Stmt.For _ _ _ _ _) (sc' := ⟨_, _, _, _, _⟩) rfl rfl ?_
  revert X; k_fill; intro X
  k_steps
  rename_i h6 tk6 t6 u6 v6 hR F6 N6 up6
  clear up6
  have hDr : Dm < s.heap.objs.size := Heap.lt_size ((by assumption : News h₀ L s.heap news) _ mdm).1
  refine' for_srcC (n := 4) (c := L + 1 + 1 + 1 + 1) (S := ?S) ?hk ?hl ?hc ?hcv (fun i m' l => m' (Str.ofString "marks") = some (.ref Dm) ∧ m' (Str.ofString "ends") = some (.ref De) ∧ ∃ Xs' vs' vsM kM, (∀ p ∈ Xs, p ∈ Xs') ∧ LSt L l Xs' vs' ∧ (∀ j, j ≠ 4 → vs' j = vs j) ∧ (∀ p ∈ Xs', p.1 ≠ Dm) ∧
      (Dm, ({ cls := .type "list", data := .seq (List.toArray vsM) kM } : Obj)) ∈ l ∧ AllV (MarkIn Xs') vsM ((wss.take i).map markF)) ?h0 ?hJc ?step ?done
  case S => exact src_range rfl (Nat.le_of_ble_eq_true rfl) F6 N6 hR
  case hk => rfl
  case hl => with_unfolding_all rfl
  case hc => with_unfolding_all rfl
  case hcv =>
    intro e
    injection e with e
    refine Classical.byContradiction ?_; intro kG0
    obtain ⟨o4, m4, _⟩ := S.c4
    refine kG0 ?_
    clear kG0
    have := Heap.lt_size ((by assumption : News h₀ L s.heap news) _ m4).1
    exact absurd this (by rw [← e]; exact Nat.lt_irrefl _)
  case h0 => exact ⟨mm, me, Xs, vs, [], km, fun _ h => h, S, fun _ _ => rfl, hDm.2, mdm, .nil⟩
  case hJc => exact fun i m' l hJ => by obtain ⟨_, _, _, _, _, _, _, S', _⟩ := hJ; obtain ⟨o, a, b⟩ := S'.c4; exact ⟨o, _, a, b⟩
  case step =>
    intro i v m₁ news₁ h tk own I o' hi pz1 pz2 hnI pz3 hown hlt hcI ho' Fg Ng
    refine Classical.byContradiction ?_; intro kG0
    obtain ⟨t, rfl⟩ := pz1
    obtain ⟨n1, n2, Xs', vs', vsM, kM, hXs, S', hvs', hXD, mdm', hvM⟩ := pz2
    obtain ⟨oI, hoI⟩ := pz3
    rw [Int.zero_add] at ho'
    obtain ⟨ws, hws⟩ : ∃ ws, wss[i]? = some ws := ⟨wss[i]'(hw4 ▸ hi), List.getElem?_eq_getElem _⟩
    have hwm := List.mem_of_getElem? hws
    obtain ⟨hwl, h4⟩ := hw ws hwm
    have S0 := S'.put 4 (by decide) (c := L + 1 + 1 + 1 + 1) rfl ho'
    generalize hvv : (fun j => if j = 4 then some (Value.int (i : Int) t) else vs' j) = vv at S0
    have hv4' : vv 4 = some (.int (i : Int) t) := by rw [← hvv]; rfl
    have hvo : ∀ j, j ≠ 4 → vv j = vs j := fun j hj => by rw [← hvv]; simp only [if_neg hj]; exact hvs' j hj
    have hrI : ∀ p ∈ (L + 1 + 1 + 1 + 1, o') :: rmA (L + 1 + 1 + 1 + 1) news₁, p.1 ≠ I := fun p hp => (List.mem_cons.mp hp).elim (fun e => e ▸ hcI) fun e => hnI p (mem_rm.mp e).1
    have mdm0 : (Dm, ({ cls := .type "list", data := .seq (List.toArray vsM) kM } : Obj)) ∈ (L + 1 + 1 + 1 + 1, o') :: rmA (L + 1 + 1 + 1 + 1) news₁ := mem_put mdm' (neN (by have := hDm.1; show @Ne Nat Dm (L + 1 + 1 + 1 + 1); omega))
    generalize (L + 1 + 1 + 1 + 1, o') :: rmA (L + 1 + 1 + 1 + 1) news₁ = R0 at *
    refine kG0 ?_
    clear kG0
    have S1 := S0.grow (news' := own ++ R0) fun p hp => List.mem_append.mpr (.inr hp)
    have hWb' := hWb.mono hXs fun _ _ x => x.mono hXs
    have hW' := SeqIn.mono hW hXs fun _ _ x => HeadsIn.mono x hXs
    have hDmI : Dm ≠ I := hrI _ mdm0
    have hvl := hvM.length
    have hvM20 : vsM.length ≤ 20 := by rw [hvl, List.length_map, List.length_take]; omega
    refine wpAny_execs_cons (show wpAny _ _ (exec (markS 0) (lawE lawScope L fa cd)) _ _ _ from stmt_straight (wss := wss) (i := i) (t := t) (by omega) hws ⟨by omega, h4⟩ X T B Fg Ng S1 (by rw [hvo 3 (by decide)]; exact hv3) hW' hv4' fun h1 tk1 Ds ys ks F1 N1 l1 hys => ?_)
    refine wpAny_execs_cons (show wpAny _ _ (exec (markS 1) (lawE lawScope L fa cd)) _ _ _ from stmt_onward X T B F1 N1 fun h2 tk2 Do ko F2 N2 l2 => ?_)
    have hle : ∀ p ∈ own ++ R0, p.1 < Do := fun p hp => l2 p (.tail _ hp)
    have hDoL : @LT.lt Nat _ (L + 7) Do := S1.above hle
    have hDoX : ∀ p ∈ Xs', p.1 ≠ Do := fun p hp => Nat.ne_of_lt (hle p (S1.hX p hp).1)
    refine wpAny_execs_cons (show wpAny _ _ (exec (markS 2) (lawE lawScope L fa cd)) _ _ _ from stmt_names (bs := wss.map fun ws => bookF (ws.map cOf)) (i := i) (t := t) (b := bookF (ws.map cOf)) (st := straightF (headEnd ws)) (ys := ys) (Ds := Ds) (Do := Do) (Dm := Dm) (De := De)
      (by rw [List.length_map]; omega) (by rw [List.getElem?_map, hws]; rfl) (hbz ws hwm) (hM ws hwm) X T B F2 N2 (S1.grow fun p hp => .tail _ (.tail _ hp)) (by rw [hvo 1 (by decide)]; exact hv1) hWb' hv4' rfl (.tail _ List.mem_cons_self) hys rfl List.mem_cons_self
      ⟨Nat.ne_of_lt (l2 _ List.mem_cons_self), hDoL, hDoX⟩ n1 n2 fun h3 tk3 m3 news3 zs kz F3 N3 hsub3 hzs mo3 mm3 me3 => ?_)
    have hB3 : ∀ p ∈ own ++ R0, p ∈ (Do, ({ cls := .type "list", data := .seq (List.toArray zs) kz } : Obj)) :: news3 := fun p hp => .tail _ (hsub3 p (.tail _ (.tail _ hp)) (Nat.ne_of_lt (hle p hp)))
    refine wpAny_execs_cons (show wpAny _ _ (exec (markS 3) (lawE lawScope L fa cd)) _ _ _ from stmt_append (bs := wss.map fun ws => bookF (ws.map cOf)) (i := i) (t := t) (b := bookF (ws.map cOf)) (Do := Do) (Dm := Dm)
      (by rw [List.length_map]; omega) (by rw [List.getElem?_map, hws]; rfl) (hbz ws hwm) X T B F3 N3 (S1.grow hB3) (by rw [hvo 1 (by decide)]; exact hv1) hWb' hv4' mo3 mm3 (hB3 _ (List.mem_append.mpr (.inr mdm0))) hvM20 fun h4 tk4 D1 T1 vss kss nT k' F4 N4 l4 hvss => ?_)
    refine wpAny_execs_nil ?_
    have hDmO : Dm ≠ Do := Nat.ne_of_lt (hle _ (List.mem_append.mpr (.inr mdm0)))
    have hI3 := hB3 _ (List.mem_append.mpr (.inl hoI))
    have hm3 := hB3 _ (List.mem_append.mpr (.inr mdm0))
    have hD1L : @LT.lt Nat _ (L + 7) D1 := (S1.grow hB3).above fun p hp => (l4 p hp).1
    have hT1L : @LT.lt Nat _ (L + 7) T1 := (S1.grow hB3).above fun p hp => (l4 p hp).2
    have hin : ∀ p ∈ R0, p.1 ≠ Dm → p ∈ (Dm, ({ cls := .type "list", data := .seq (List.toArray (vsM ++ [.ref T1])) k' } : Obj)) :: rmA Dm ((T1, ({ cls := .type "tuple", data := .seq #[.ref D1, .ref Do] nT } : Obj)) :: (D1, ({ cls := .type "list", data := .seq (List.toArray vss) kss } : Obj)) :: (Do, ({ cls := .type "list", data := .seq (List.toArray zs) kz } : Obj)) :: R0) :=
      fun p hp q => .tail _ (mem_rm.mpr ⟨.tail _ (.tail _ (.tail _ hp)), q⟩)
    refine .mk F4 N4 (fun p hp => ?_) (news' := (Dm, ({ cls := .type "list", data := .seq (List.toArray (vsM ++ [.ref T1])) k' } : Obj)) :: rmA Dm ((T1, ({ cls := .type "tuple", data := .seq #[.ref D1, .ref Do] nT } : Obj)) :: (D1, ({ cls := .type "list", data := .seq (List.toArray vss) kss } : Obj)) :: (Do, ({ cls := .type "list", data := .seq (List.toArray zs) kz } : Obj)) :: R0)) (fun p hp => ?_) (fun p hp => ?_)
      ⟨mm3, me3, (T1, ({ cls := .type "tuple", data := .seq #[.ref D1, .ref Do] nT } : Obj)) :: (D1, ({ cls := .type "list", data := .seq (List.toArray vss) kss } : Obj)) :: (Do, ({ cls := .type "list", data := .seq (List.toArray zs) kz } : Obj)) :: Xs', vv, vsM ++ [.ref T1], k', fun p hp => .tail _ (.tail _ (.tail _ (hXs p hp))), ?_, hvo, fun p hp => ?_, List.mem_cons_self, ?_⟩
    · refine mem_put (.tail _ (.tail _ (hB3 p (List.mem_append.mpr (.inl hp))))) ?_
      rcases (hown p hp).1 with e | e
      · rw [e]; exact fun q => hDmI q.symm
      · injection e with e; rw [← e]; exact Nat.ne_of_gt hDr
    · rcases List.mem_cons.mp hp with rfl | hp
      · exact List.mem_cons_self
      · refine Classical.byContradiction ?_; intro kG0
        obtain ⟨hp, q⟩ := mem_rm.mp hp
        refine kG0 ?_
        clear kG0
        refine mem_put ?_ q
        rcases List.mem_cons.mp hp with rfl | hp
        · exact List.mem_cons_self
        · rcases List.mem_cons.mp hp with rfl | hp
          · exact .tail _ List.mem_cons_self
          · rcases List.mem_cons.mp hp with rfl | hp
            · exact .tail _ (.tail _ List.mem_cons_self)
            · exact .tail _ (.tail _ (hB3 p (List.mem_append.mpr (.inr hp))))
    · rcases List.mem_cons.mp hp with rfl | hp
      · exact hDmI
      · rcases List.mem_cons.mp (mem_rm.mp hp).1 with rfl | hp
        · exact Nat.ne_of_gt (l4 _ hI3).2
        · rcases List.mem_cons.mp hp with rfl | hp
          · exact Nat.ne_of_gt (l4 _ hI3).1
          · rcases List.mem_cons.mp hp with rfl | hp
            · exact Nat.ne_of_gt (hle _ (List.mem_append.mpr (.inl hoI)))
            · exact hrI p hp
    · refine (S0.growBut ⟨hDm.1, hXD⟩ hin).withX fun p hp => ?_
      rcases List.mem_cons.mp hp with rfl | hp
      · exact ⟨mem_put List.mem_cons_self (Nat.ne_of_gt (l4 _ hm3).2), hT1L⟩
      · rcases List.mem_cons.mp hp with rfl | hp
        · exact ⟨mem_put (.tail _ List.mem_cons_self) (Nat.ne_of_gt (l4 _ hm3).1), hD1L⟩
        · rcases List.mem_cons.mp hp with rfl | hp
          · exact ⟨mem_put (.tail _ (.tail _ List.mem_cons_self)) (Ne.symm hDmO), hDoL⟩
          · exact ⟨hin p (S0.hX p hp).1 (hXD p hp), (S0.hX p hp).2⟩
    · rcases List.mem_cons.mp hp with rfl | hp
      · exact Nat.ne_of_gt (l4 _ hm3).2
      · rcases List.mem_cons.mp hp with rfl | hp
        · exact Nat.ne_of_gt (l4 _ hm3).1
        · rcases List.mem_cons.mp hp with rfl | hp
          · exact Ne.symm hDmO
          · exact hXD p hp
    · rw [takeMap_snoc markF hws]
      exact (hvM.mono fun _ _ x => x.mono fun p hp => .tail _ (.tail _ (.tail _ hp))).snoc ⟨T1, nT, .ref D1, .ref Do, rfl, List.mem_cons_self, ⟨D1, kss, vss, rfl, .tail _ List.mem_cons_self, hvss⟩, ⟨Do, kz, zs, rfl, .tail _ (.tail _ List.mem_cons_self), hzs⟩⟩
  case done =>
    intro h tk m' l Fg Ng pz4
    refine Classical.byContradiction ?_; intro kG0
    obtain ⟨n1, n2, Xs', vs', vsM, kM, hXs, S', hvs', hXD, mdm', hvM⟩ := pz4
    refine kG0 ?_
    clear kG0
    rw [show wss.take 4 = wss from by rw [← hw4, List.take_length]] at hvM
    exact k h tk m' l ((Dm, ({ cls := .type "list", data := .seq (List.toArray vsM) kM } : Obj)) :: Xs') vs' Fg Ng (S'.withX fun p hp => (List.mem_cons.mp hp).elim (fun e => e ▸ ⟨mdm', hDm.1⟩) fun e => S'.hX p e) hvs' (fun p hp => .tail _ (hXs p hp)) ⟨Dm, kM, vsM, rfl, List.mem_cons_self, hvM.mono fun _ _ x => x.mono fun p hp => .tail _ hp⟩ n1 n2
example : True := by w_top off; trivial
section
variable {w : World} {A : Around} {E : Value → Shared → Prop} {s : Shared} {h₀ : Heap} {L a b : Addr} {news X : List (Addr × Obj)} {vs us : List Value} {xs ys : List Str} {k k' : Nat}
theorem AllV.all_range {xs ys : List Str} (h : xs.length = ys.length) : (List.range xs.length).all (fun j => xs[j]? == ys[j]?) = decide (xs = ys) := by
  rw [Bool.eq_iff_iff, List.all_eq_true, decide_eq_true_eq]
  constructor
  · intro e
    apply List.ext_getElem? 
    intro j
    by_cases hj : j < xs.length
    · exact eq_of_beq (e j (List.mem_range.mpr hj))
    · rw [List.getElem?_eq_none (by omega), List.getElem?_eq_none (by omega)]
  · rintro rfl j _; exact beq_self_eq_true _
theorem rc_LS (hl : s.heap.IsList a vs.toArray) (hb : s.heap.IsList b us.toArray) (hx : AllV IsS vs xs) (hy : AllV IsS us ys) (hu : A.units < cLine) : SeqAt.RcAt A s (.ref a) (.ref b) (decide (xs = ys)) := by
  have l1 := hx.length
  have l2 := hy.length
  by_cases hlen : xs.length = ys.length
  · have e := SeqAt.RcAt.lists (A := A) (e := fun j => xs[j]? == ys[j]?) hl hb (by simp only [List.size_toArray]; omega) hu fun j h1 h2 => by
      simp only [List.size_toArray] at h1 h2
      refine Classical.byContradiction ?_; intro kG0
      obtain ⟨x, hx', t, ht⟩ := hx.get (i := j) (v := vs[j]) (List.getElem?_eq_getElem h1)
      obtain ⟨y, hy', u, hu'⟩ := hy.get (i := j) (v := us[j]) (List.getElem?_eq_getElem h2)
      refine kG0 ?_
      clear kG0
      simp only [List.getElem_toArray]
      rw [ht, hu', hx', hy']
      have e2 : (some x == some y) = decide (x = y) := by rw [Bool.eq_iff_iff, decide_eq_true_eq]; exact ⟨fun q => Option.some.inj (eq_of_beq q), fun q => by rw [q]; exact beq_self_eq_true _⟩
      rw [e2]
      exact fun prog w E Q q => wpAny_eqBool_str q
    rw [List.size_toArray, l1, AllV.all_range hlen] at e
    exact e
  · rw [show decide (xs = ys) = false from decide_eq_false fun e => hlen (by rw [e])]
    exact SeqAt.RcAt.lists_lengths hl hb (by simp only [List.size_toArray, bne_iff_ne, ne_eq]; omega) hu
theorem allS_uniq {vs : List Value} {xs : List Str} (hx : AllV IsS vs xs) : ∀ {ys : List Str}, AllV IsS vs ys → xs = ys := by
  induction hx with
  | nil => intro ys h; cases h; rfl
  | cons h _ ih =>
    intro ys h'
    cases h' with
    | cons h' t =>
      refine Classical.byContradiction ?_; intro kG0
      obtain ⟨_, rfl⟩ := h
      obtain ⟨_, e⟩ := h'
      refine kG0 ?_
      clear kG0
      cases e
      rw [ih t]
theorem at_LS (hl : s.heap.IsList a vs.toArray) (hb : s.heap.IsList b us.toArray) (hx : AllV IsS vs xs) (hy : AllV IsS us ys) (hu : A.units < cLine) : SeqAt.EqAt A s (.ref a) (.ref b) (decide (xs = ys)) := by
  by_cases hab : a = b
  · subst hab
    refine Classical.byContradiction ?_; intro kG0
    obtain ⟨o, ho, _, n, hd⟩ := hl
    obtain ⟨o', ho', _, n', hd'⟩ := hb
    refine kG0 ?_
    clear kG0
    rw [ho] at ho'
    cases ho'
    rw [hd] at hd'
    injection hd' with e _
    have e := congrArg Array.toList e
    simp only at e
    subst e
    have e2 : xs = ys := allS_uniq hx hy
    rw [decide_eq_true e2]
    exact SeqAt.EqAt.same _
  · exact SeqAt.EqAt.of_refs hab (rc_LS hl hb hx hy hu)
theorem rc_M {p q : List Str × List Str} (N : News h₀ L s.heap news) (hX : ∀ p ∈ X, p ∈ news) (hp : MarkIn X (.ref a) p) (hq : MarkIn X (.ref b) q) (hu : A.units + 1 < cLine) : SeqAt.RcAt A s (.ref a) (.ref b) (decide (p = q)) := by
  refine Classical.byContradiction ?_; intro kG0
  obtain ⟨_, n, x, y, e, m, ⟨d1, k1, v1, rfl, m1, h1⟩, d2, k2, v2, rfl, m2, h2⟩ := hp
  refine kG0 ?_
  clear kG0
  cases e
  refine Classical.byContradiction ?_; intro kG0
  obtain ⟨_, n', x', y', e, m', ⟨d3, k3, v3, rfl, m3, h3⟩, d4, k4, v4, rfl, m4, h4⟩ := hq
  refine kG0 ?_
  clear kG0
  cases e
  have e := SeqAt.RcAt.tuples (A := A) (e := fun j => if j = 0 then decide (p.1 = q.1) else decide (p.2 = q.2)) ⟨_, (N _ (hX _ m)).1, rfl, _, rfl⟩ ⟨_, (N _ (hX _ m')).1, rfl, _, rfl⟩ (by omega) fun j i1 i2 => by
    have i1' : j < 2 := i1
    match j, i1' with
    | 0, _ => exact at_LS (isList_of N (hX _ m1)) (isList_of N (hX _ m3)) h1 h3 hu
    | 1, _ => exact at_LS (isList_of N (hX _ m2)) (isList_of N (hX _ m4)) h2 h4 hu
  have e3 : ((List.range (min (#[Value.ref d1, Value.ref d2] : Array Value).size (#[Value.ref d3, Value.ref d4] : Array Value).size)).all (fun j => if j = 0 then decide (p.1 = q.1) else decide (p.2 = q.2)) && (#[Value.ref d1, Value.ref d2] : Array Value).size == (#[Value.ref d3, Value.ref d4] : Array Value).size) = decide (p = q) := by
    rw [Bool.eq_iff_iff, decide_eq_true_eq, Prod.ext_iff]
    simp [List.range_succ]
  rw [e3] at e
  exact e
theorem rc_L0 (hl : s.heap.IsList a vs.toArray) (hb : s.heap.IsList b #[]) (hu : A.units < cLine) : SeqAt.RcAt A s (.ref a) (.ref b) (decide (vs = [])) := by
  cases vs with
  | nil =>
    have e := SeqAt.RcAt.lists (A := A) (e := fun _ => true) hl hb rfl hu fun j h1 => absurd h1 (Nat.not_lt_zero _)
    exact e
  | cons v r => exact SeqAt.RcAt.lists_lengths hl hb (by simp) hu
/-- the walk's words -/
theorem eq_L0t {Q : Value → Shared → Prop} (N : News h₀ L s.heap news) (hm : (a, ({ cls := .type "list", data := .seq (List.toArray vs) k } : Obj)) ∈ news) (hm' : (b, ({ cls := .type "list", data := .seq #[] k' } : Obj)) ∈ news) (hu : A.units < cLine) (h0 : vs = []) (h : Q (.bool true) s) :
    wpAny (model PySem.Challenge.rw_zn0008_01.row.prog w) A (compareOp .Eq (.ref a) (.ref b)) Q E s := rc_L0 (isList_of N hm) (isList_of (vs := []) N hm') hu _ w E Q (by rw [decide_eq_true h0]; exact h)
theorem eq_L0f {Q : Value → Shared → Prop} (N : News h₀ L s.heap news) (hm : (a, ({ cls := .type "list", data := .seq (List.toArray vs) k } : Obj)) ∈ news) (hm' : (b, ({ cls := .type "list", data := .seq #[] k' } : Obj)) ∈ news) (hu : A.units < cLine) (h0 : vs ≠ []) (h : Q (.bool false) s) :
    wpAny (model PySem.Challenge.rw_zn0008_01.row.prog w) A (compareOp .Eq (.ref a) (.ref b)) Q E s := rc_L0 (isList_of N hm) (isList_of (vs := []) N hm') hu _ w E Q (by rw [decide_eq_false h0]; exact h)
end
example : True := by
  k_with "compareOp Eq ref ref" => (k_here; k_dflt (first | (refine' eq_L0t ?N ?hm ?hm' ?hu ?h0 ?_; (case N => k_asm); (case hm' => (k_extra "zz mem")); (case hm => first | assumption | (k_extra "zz mem")); (case h0 => assumption); (case hu => exact Nat.le_of_ble_eq_true rfl); k_whole) | (refine' eq_L0f ?N ?hm ?hm' ?hu ?h0 ?_; (case N => k_asm); (case hm' => (k_extra "zz mem")); (case hm => first | assumption | (k_extra "zz mem")); (case h0 => assumption); (case hu => exact Nat.le_of_ble_eq_true rfl); k_whole)))
  trivial
example : True := by w_top off; trivial
noncomputable def cmpS (n : Nat) : Stmt := match lawS 11 with | .For _ _ [.For _ _ body _ _] _ _ => (body[n]?).getD (.Pass ⟨0, 0, 0, 0⟩) | _ => .Pass ⟨0, 0, 0, 0⟩
/-- the keys of one book that the other lacks -/
noncomputable def lackF (b c : List (Str × Stat)) : List Str := (keysOf b).filter fun x => decide (x ∉ keysOf c)
theorem lack_snoc {ks : List Str} {c : List Str} {i : Nat} {x : Str} (h : ks[i]? = some x) : (ks.take (i + 1)).filter (fun x => decide (x ∉ c)) = (ks.take i).filter (fun x => decide (x ∉ c)) ++ if x ∈ c then [] else [x] := by
  rw [List.take_succ_eq_append_getElem (List.getElem?_eq_some_iff.mp h).1, (List.getElem?_eq_some_iff.mp h).2, List.filter_append]
  by_cases hx : x ∈ c
  · rw [if_pos hx, List.filter_cons_of_neg (by simpa using hx), List.filter_nil]
  · rw [if_neg hx, List.filter_cons_of_pos (by simpa using hx), List.filter_nil]
theorem stmt_lack {w : World} {mean : ExcName → Option Value} {mg mb : Str → Option Value} {h₀ : Heap} {L fa Wb : Addr} {cd : Value} {m : Str → Option Value} {news Xs : List (Addr × Obj)} {vs : Nat → Option Value} {s : Shared} {Q : Flow → Shared → Prop} {E : Value → Shared → Prop} {bs : List (List (Str × Stat))} {i j : Nat} {ti tj : Tok} {b c : List (Str × Stat)}
    (hl : bs.length ≤ 20) (hi : bs[i]? = some b) (hj : bs[j]? = some c) (hbz : b.length ≤ 60) (X : (lay.heap_1 w.params).In h₀) (T : Top V loo mean mg mb h₀) (B : Below callerA h₀ [] h₀) (F : Fr h₀ L s.heap m) (N : News h₀ L s.heap news)
    (S : LSt L news Xs vs) (hv1 : vs 1 = some (.ref Wb)) (hW : SeqIn "list" (BookIn w) Xs (.ref Wb) bs) (hv6 : vs 6 = some (.int (i : Int) ti)) (hv7 : vs 7 = some (.int (j : Int) tj))
    (k : ∀ h' tk' D ys kD, Fr h₀ L h' (fun y => if y = Str.ofString "lacking" then some (.ref D) else m y) → News h₀ L h' ((D, ({ cls := .type "list", data := .seq (List.toArray ys) kD } : Obj)) :: news) → (∀ p ∈ news, p.1 < D) → AllV IsS ys (lackF b c) → Q .next { s with heap := h', toks := tk' }) :
    wpAny (model PySem.Challenge.rw_zn0008_01.row.prog w) (callerA.deeper (lawE lawScope L fa cd)) (exec (cmpS 0) (lawE lawScope L fa cd)) Q E s := by
  refine law_open (st' := PySem.Stmt.Assign _ _ _) (sc' := ⟨_, _, _, _, _⟩) rfl rfl ?_
  refine Classical.byContradiction ?_; intro kG0
  obtain ⟨kw, vw, mW, hvw⟩ := hW.get
  have mW' := (S.hX _ mW).1
  obtain ⟨o1, m1, d1⟩ := S.c1
  rw [hv1] at d1
  obtain ⟨o6, m6, d6⟩ := S.c6
  rw [hv6] at d6
  obtain ⟨o7, m7, d7⟩ := S.c7
  rw [hv7] at d7
  have hlw := hvw.length
  obtain ⟨vb, hvb, db, ob, kvs, rfl, mdb, hdb, lob, hal⟩ := hvw.get' hi
  have hI1 : ItemIs vw (i : Int) (.ref db) := ItemIs.pos hvb (by omega)
  have mdb' := (S.hX _ mdb).1
  obtain ⟨vc, hvc, dc, oc, kvc, rfl, mdc, hdc, loc, halc⟩ := hvw.get' hj
  refine kG0 ?_
  clear kG0
  have hI2 : ItemIs vw (j : Int) (.ref dc) := ItemIs.pos hvc (by omega)
  have mdc' := (S.hX _ mdc).1
  have hkl := hal.length
  revert X; k_fill; intro X
  k_steps
  refine' comp_localJ ?S ?hn ?hcell ?hkind ?hx ?hy ?hp (fun n ys l => (∀ p ∈ news, p ∈ l) ∧ AllV IsS ys (((keysOf b).take n).filter fun x => decide (x ∉ keysOf c))) ⟨fun p hp => hp, .nil⟩ ?step ?done
  case S => exact src_keys rfl F N mdb' hdb lob
  case hn => omega
  case hcell => decide
  case hkind => rfl
  case hx => rfl
  case hy => with_unfolding_all rfl
  case hp => rfl
  case step =>
    intro n v ys news₁ h tk C D I lead hn pz1 pz2 ld hlow F₁ N₁
    refine Classical.byContradiction ?_; intro kG0
    obtain ⟨x, y, tx, hkx, rfl⟩ := pz1
    obtain ⟨hsub, hys⟩ := pz2
    obtain ⟨oC, hC, hb⟩ := ld.cm
    refine kG0 ?_
    clear kG0
    have hC' : (C, oC) ∈ lead ++ news₁ := List.mem_append.mpr (.inl hC)
    have up : ∀ p ∈ news, p ∈ lead ++ news₁ := fun p hp => List.mem_append.mpr (.inr (hsub p hp))
    have m1' := up _ m1
    have m6' := up _ m6
    have m7' := up _ m7
    have mW2 := up _ mW'
    have mdc2 := up _ mdc'
    have hxk : (keysOf b)[n]? = some x := by rw [show keysOf b = kvs.map (·.1) from hal.keys.symm, List.getElem?_map, hkx]; rfl
    have hsn := lack_snoc (c := keysOf c) hxk
    refine wpAny_tests_one ?_
    rcases halc.look (k := x) with ⟨hno, hlk⟩ | ⟨vq, q, hvq, hlk, _⟩
    · rw [if_neg (lookK_none.mp hlk)] at hsn
      k_steps
      exact EndC.same (by assumption) (by assumption) ld (fun p hp => hp) ⟨hsub, by rw [hsn]; exact hys.snoc ⟨_, rfl⟩⟩
    · rw [if_pos (Decidable.byContradiction fun hq => by rw [lookK_none.mpr hq] at hlk; cases hlk), List.append_nil] at hsn
      k_steps
      exact EndC.same (by assumption) (by assumption) ld (fun p hp => hp) ⟨hsub, by rw [hsn]; exact hys⟩
  case done =>
    intro D h tk ys news' kD F₁ N₁ hlow hap pz3
    refine Classical.byContradiction ?_; intro kG0
    obtain ⟨hsub, hys⟩ := pz3
    refine kG0 ?_
    clear kG0
    exact k _ _ D ys kD F₁ (newsOf N₁ fun p hp => (List.mem_cons.mp hp).elim (fun e => e ▸ List.mem_cons_self) fun e => .tail _ (hsub p e)) hlow (by unfold lackF; rw [show (keysOf b).take kvs.length = keysOf b from by rw [show keysOf b = kvs.map (·.1) from hal.keys.symm, ← List.length_map (f := fun x : Str × Value => x.1), List.take_length]] at hys; exact hys)
example : True := by w_top off; trivial
theorem stmt_beyond {w : World} {mean : ExcName → Option Value} {mg mb : Str → Option Value} {h₀ : Heap} {L fa Wb : Addr} {cd : Value} {m : Str → Option Value} {news Xs : List (Addr × Obj)} {vs : Nat → Option Value} {s : Shared} {Q : Flow → Shared → Prop} {E : Value → Shared → Prop} {bs : List (List (Str × Stat))} {i j : Nat} {ti tj : Tok} {b c : List (Str × Stat)}
    (hl : bs.length ≤ 20) (hi : bs[j]? = some b) (hj : bs[i]? = some c) (hbz : b.length ≤ 60) (X : (lay.heap_1 w.params).In h₀) (T : Top V loo mean mg mb h₀) (B : Below callerA h₀ [] h₀) (F : Fr h₀ L s.heap m) (N : News h₀ L s.heap news)
    (S : LSt L news Xs vs) (hv1 : vs 1 = some (.ref Wb)) (hW : SeqIn "list" (BookIn w) Xs (.ref Wb) bs) (hv6 : vs 6 = some (.int (i : Int) ti)) (hv7 : vs 7 = some (.int (j : Int) tj))
    (k : ∀ h' tk' D ys kD, Fr h₀ L h' (fun y => if y = Str.ofString "beyond" then some (.ref D) else m y) → News h₀ L h' ((D, ({ cls := .type "list", data := .seq (List.toArray ys) kD } : Obj)) :: news) → (∀ p ∈ news, p.1 < D) → AllV IsS ys (lackF b c) → Q .next { s with heap := h', toks := tk' }) :
    wpAny (model PySem.Challenge.rw_zn0008_01.row.prog w) (callerA.deeper (lawE lawScope L fa cd)) (exec (cmpS 3) (lawE lawScope L fa cd)) Q E s := by
  refine law_open (st' := PySem.Stmt.Assign _ _ _) (sc' := ⟨_, _, _, _, _⟩) rfl rfl ?_
  refine Classical.byContradiction ?_; intro kG0
  obtain ⟨kw, vw, mW, hvw⟩ := hW.get
  have mW' := (S.hX _ mW).1
  obtain ⟨o1, m1, d1⟩ := S.c1
  rw [hv1] at d1
  obtain ⟨o6, m6, d6⟩ := S.c6
  rw [hv6] at d6
  obtain ⟨o7, m7, d7⟩ := S.c7
  rw [hv7] at d7
  have hlw := hvw.length
  obtain ⟨vb, hvb, db, ob, kvs, rfl, mdb, hdb, lob, hal⟩ := hvw.get' hi
  have hI1 : ItemIs vw (j : Int) (.ref db) := ItemIs.pos hvb (by omega)
  have mdb' := (S.hX _ mdb).1
  obtain ⟨vc, hvc, dc, oc, kvc, rfl, mdc, hdc, loc, halc⟩ := hvw.get' hj
  refine kG0 ?_
  clear kG0
  have hI2 : ItemIs vw (i : Int) (.ref dc) := ItemIs.pos hvc (by omega)
  have mdc' := (S.hX _ mdc).1
  have hkl := hal.length
  revert X; k_fill; intro X
  k_steps
  refine' comp_localJ ?S ?hn ?hcell ?hkind ?hx ?hy ?hp (fun n ys l => (∀ p ∈ news, p ∈ l) ∧ AllV IsS ys (((keysOf b).take n).filter fun x => decide (x ∉ keysOf c))) ⟨fun p hp => hp, .nil⟩ ?step ?done
  case S => exact src_keys rfl F N mdb' hdb lob
  case hn => omega
  case hcell => decide
  case hkind => rfl
  case hx => rfl
  case hy => with_unfolding_all rfl
  case hp => rfl
  case step =>
    intro n v ys news₁ h tk C D I lead hn pz1 pz2 ld hlow F₁ N₁
    refine Classical.byContradiction ?_; intro kG0
    obtain ⟨x, y, tx, hkx, rfl⟩ := pz1
    obtain ⟨hsub, hys⟩ := pz2
    obtain ⟨oC, hC, hb⟩ := ld.cm
    refine kG0 ?_
    clear kG0
    have hC' : (C, oC) ∈ lead ++ news₁ := List.mem_append.mpr (.inl hC)
    have up : ∀ p ∈ news, p ∈ lead ++ news₁ := fun p hp => List.mem_append.mpr (.inr (hsub p hp))
    have m1' := up _ m1
    have m6' := up _ m6
    have m7' := up _ m7
    have mW2 := up _ mW'
    have mdc2 := up _ mdc'
    have hxk : (keysOf b)[n]? = some x := by rw [show keysOf b = kvs.map (·.1) from hal.keys.symm, List.getElem?_map, hkx]; rfl
    have hsn := lack_snoc (c := keysOf c) hxk
    refine wpAny_tests_one ?_
    rcases halc.look (k := x) with ⟨hno, hlk⟩ | ⟨vq, q, hvq, hlk, _⟩
    · rw [if_neg (lookK_none.mp hlk)] at hsn
      k_steps
      exact EndC.same (by assumption) (by assumption) ld (fun p hp => hp) ⟨hsub, by rw [hsn]; exact hys.snoc ⟨_, rfl⟩⟩
    · rw [if_pos (Decidable.byContradiction fun hq => by rw [lookK_none.mpr hq] at hlk; cases hlk), List.append_nil] at hsn
      k_steps
      exact EndC.same (by assumption) (by assumption) ld (fun p hp => hp) ⟨hsub, by rw [hsn]; exact hys⟩
  case done =>
    intro D h tk ys news' kD F₁ N₁ hlow hap pz3
    refine Classical.byContradiction ?_; intro kG0
    obtain ⟨hsub, hys⟩ := pz3
    refine kG0 ?_
    clear kG0
    exact k _ _ D ys kD F₁ (newsOf N₁ fun p hp => (List.mem_cons.mp hp).elim (fun e => e ▸ List.mem_cons_self) fun e => .tail _ (hsub p e)) hlow (by unfold lackF; rw [show (keysOf b).take kvs.length = keysOf b from by rw [show keysOf b = kvs.map (·.1) from hal.keys.symm, ← List.length_map (f := fun x : Str × Value => x.1), List.take_length]] at hys; exact hys)
example : True := by w_top off; trivial
theorem stmt_astray {w : World} {mean : ExcName → Option Value} {mg mb : Str → Option Value} {h₀ : Heap} {L fa Wt : Addr} {cd : Value} {m : Str → Option Value} {news Xs : List (Addr × Obj)} {vs : Nat → Option Value} {s : Shared} {Q : Flow → Shared → Prop} {E : Value → Shared → Prop} {tss : List (List Str)} {i j : Nat} {ti tj tf : Tok} {r1 r2 : List Str}
    (hl : tss.length ≤ 20) (hi : tss[i]? = some r1) (hj : tss[j]? = some r2) (h4 : r1.length = 4 ∧ r2.length = 4) (X : (lay.heap_1 w.params).In h₀) (T : Top V loo mean mg mb h₀) (B : Below callerA h₀ [] h₀) (F : Fr h₀ L s.heap m) (N : News h₀ L s.heap news)
    (S : LSt L news Xs vs) (hv2 : vs 2 = some (.ref Wt)) (hW : SeqIn "list" StrsIn Xs (.ref Wt) tss) (hv5 : vs 5 = some (.str failedT tf)) (hv6 : vs 6 = some (.int (i : Int) ti)) (hv7 : vs 7 = some (.int (j : Int) tj))
    (k : ∀ h' tk' D ys kD, Fr h₀ L h' (fun y => if y = Str.ofString "astray" then some (.ref D) else m y) → News h₀ L h' ((D, ({ cls := .type "list", data := .seq (List.toArray ys) kD } : Obj)) :: news) → (∀ p ∈ news, p.1 < D) → (ys = [] ↔ ∀ q, q < 4 → r1[q]? = some failedT ∨ r1[q]? = r2[q]?) → Q .next { s with heap := h', toks := tk' }) :
    wpAny (model PySem.Challenge.rw_zn0008_01.row.prog w) (callerA.deeper (lawE lawScope L fa cd)) (exec (cmpS 2) (lawE lawScope L fa cd)) Q E s := by
  refine law_open (st' := PySem.Stmt.Assign _ _ _) (sc' := ⟨_, _, _, _, _⟩) rfl rfl ?_
  refine Classical.byContradiction ?_; intro kG0
  obtain ⟨kw, vw, mW, hvw⟩ := hW.get
  have mW' := (S.hX _ mW).1
  obtain ⟨o2, m2, d2⟩ := S.c2
  rw [hv2] at d2
  obtain ⟨o5, m5, d5⟩ := S.c5
  rw [hv5] at d5
  obtain ⟨o6, m6, d6⟩ := S.c6
  rw [hv6] at d6
  obtain ⟨o7, m7, d7⟩ := S.c7
  rw [hv7] at d7
  have hlw := hvw.length
  obtain ⟨va, hva, aa, ka, vsa, rfl, ma, hra⟩ := hvw.get' hi
  have hI1 : ItemIs vw (i : Int) (.ref aa) := ItemIs.pos hva (by omega)
  have ma' := (S.hX _ ma).1
  obtain ⟨vb, hvb, ab, kb, vsb, rfl, mb', hrb⟩ := hvw.get' hj
  refine kG0 ?_
  clear kG0
  have hI2 : ItemIs vw (j : Int) (.ref ab) := ItemIs.pos hvb (by omega)
  have mb2 := (S.hX _ mb').1
  have hla := hra.length
  have hlb := hrb.length
  revert X; k_fill; intro X
  k_steps
  rename_i h6 tk6 t6 u6 v6 hR F6 N6 up6
  clear up6
  refine' comp_localJ (n := 4) ?S ?hn ?hcell ?hkind ?hx ?hy ?hp (fun n ys l => (∀ p ∈ news, p ∈ l) ∧ (ys = [] ↔ ∀ q, q < n → r1[q]? = some failedT ∨ r1[q]? = r2[q]?)) ⟨fun p hp => hp, by simp⟩ ?step ?done
  case S => exact src_range rfl (Nat.le_of_ble_eq_true rfl) F6 N6 hR
  case hn => exact Nat.le_of_ble_eq_true rfl
  case hcell => decide
  case hkind => rfl
  case hx => rfl
  case hy => with_unfolding_all rfl
  case hp => rfl
  case step =>
    intro n v ys news₁ h tk C D I lead hn pz1 pz2 ld hlow F₁ N₁
    refine Classical.byContradiction ?_; intro kG0
    obtain ⟨tn, rfl⟩ := pz1
    obtain ⟨hsub, hys⟩ := pz2
    obtain ⟨oC, hC, hb⟩ := ld.cm
    have hC' : (C, oC) ∈ lead ++ news₁ := List.mem_append.mpr (.inl hC)
    have up : ∀ p ∈ news, p ∈ lead ++ news₁ := fun p hp => List.mem_append.mpr (.inr (hsub p hp))
    have m2' := up _ m2
    have m5' := up _ m5
    have m6' := up _ m6
    have m7' := up _ m7
    have mW2 := up _ mW'
    have ma2 := up _ ma'
    have mb3 := up _ mb2
    obtain ⟨x, hx⟩ : ∃ x, r1[n]? = some x := ⟨r1[n]'(by omega), List.getElem?_eq_getElem _⟩
    obtain ⟨y, hy⟩ : ∃ y, r2[n]? = some y := ⟨r2[n]'(by omega), List.getElem?_eq_getElem _⟩
    obtain ⟨vx, hvx, tx, rfl⟩ := hra.get' hx
    obtain ⟨vy, hvy, ty, rfl⟩ := hrb.get' hy
    refine kG0 ?_
    clear kG0
    have hI3 : ItemIs vsa (0 + (n : Int)) (.str x tx) := by rw [Int.zero_add]; exact ItemIs.pos hvx (by omega)
    have hI4 : ItemIs vsb (0 + (n : Int)) (.str y ty) := by rw [Int.zero_add]; exact ItemIs.pos hvy (by omega)
    have hgo : ∀ P : Prop, (P ↔ (r1[n]? = some failedT ∨ r1[n]? = r2[n]?)) → ((∀ q, q < n + 1 → r1[q]? = some failedT ∨ r1[q]? = r2[q]?) ↔ (∀ q, q < n → r1[q]? = some failedT ∨ r1[q]? = r2[q]?) ∧ P) := fun P hP =>
      ⟨fun a => ⟨fun q hq => a q (by omega), hP.mpr (a n (by omega))⟩, fun a q hq => by
        rcases Nat.lt_or_ge q n with q' | q'
        · exact a.1 q q'
        · rw [show q = n by omega]; exact hP.mp a.2⟩
    rw [hx, hy, Option.some.injEq, Option.some.injEq] at hgo
    refine wpAny_tests_one ?_
    by_cases hf : x = failedT
    · k_steps
      exact EndC.same (by assumption) (by assumption) ld (fun p hp => hp) ⟨hsub, by rw [hys, hgo True (by simp [hf])]; simp⟩
    · by_cases hxy : x = y
      · k_steps
        exact EndC.same (by assumption) (by assumption) ld (fun p hp => hp) ⟨hsub, by rw [hys, hgo True (by simp [hxy])]; simp⟩
      · k_steps
        exact EndC.same (by assumption) (by assumption) ld (fun p hp => hp) ⟨hsub, by rw [hgo False (by simp [hf, hxy])]; simp⟩
  case done =>
    intro D h tk ys news' kD F₁ N₁ hlow hap pz3
    refine Classical.byContradiction ?_; intro kG0
    obtain ⟨hsub, hys⟩ := pz3
    refine kG0 ?_
    clear kG0
    exact k _ _ D ys kD F₁ (newsOf N₁ fun p hp => (List.mem_cons.mp hp).elim (fun e => e ▸ List.mem_cons_self) fun e => .tail _ (hsub p e)) hlow hys
example : True := by w_top off; trivial
theorem stmt_chk1 {w : World} {mean : ExcName → Option Value} {mg mb : Str → Option Value} {h₀ : Heap} {L fa Wt De Dl : Addr} {cd : Value} {m : Str → Option Value} {news Xs : List (Addr × Obj)} {vs : Nat → Option Value} {s : Shared} {Q : Flow → Shared → Prop} {E : Value → Shared → Prop} {tss : List (List Str)} {es : List Str} {i j : Nat} {ti tj tf : Tok} {r1 : List Str} {x e : Str} {ysl : List Value} {kl : Nat}
    (hl : tss.length ≤ 20 ∧ es.length ≤ 20) (hi : tss[i]? = some r1) (hj : r1[j]? = some x) (h4 : r1.length = 4) (he : es[i]? = some e) (X : (lay.heap_1 w.params).In h₀) (T : Top V loo mean mg mb h₀) (B : Below callerA h₀ [] h₀) (F : Fr h₀ L s.heap m) (N : News h₀ L s.heap news)
    (S : LSt L news Xs vs) (hv2 : vs 2 = some (.ref Wt)) (hW : SeqIn "list" StrsIn Xs (.ref Wt) tss) (hv5 : vs 5 = some (.str failedT tf)) (hv6 : vs 6 = some (.int (i : Int) ti)) (hv7 : vs 7 = some (.int (j : Int) tj))
    (me : m (Str.ofString "ends") = some (.ref De)) (hE : StrsIn Xs (.ref De) es) (ml : m (Str.ofString "lacking") = some (.ref Dl)) (mdl : (Dl, ({ cls := .type "list", data := .seq (List.toArray ysl) kl } : Obj)) ∈ news)
    (hc : (ysl = [] ∧ x = e) ∨ (ysl ≠ [] ∧ x = failedT))
    (k : ∀ h' tk' news', Fr h₀ L h' m → News h₀ L h' news' → (∀ p ∈ news, p ∈ news') → Q .next { s with heap := h', toks := tk' }) :
    wpAny (model PySem.Challenge.rw_zn0008_01.row.prog w) (callerA.deeper (lawE lawScope L fa cd)) (exec (cmpS 1) (lawE lawScope L fa cd)) Q E s := by
  refine law_open (st' := PySem.Stmt.If _ _ _ _) (sc' := ⟨_, _, _, _, _⟩) rfl rfl ?_
  refine Classical.byContradiction ?_; intro kG0
  obtain ⟨kw, vw, mW, hvw⟩ := hW.get
  have mW' := (S.hX _ mW).1
  obtain ⟨ke, ve, mE, hve⟩ := hE.get
  have mE' := (S.hX _ mE).1
  obtain ⟨o2, m2, d2⟩ := S.c2
  rw [hv2] at d2
  obtain ⟨o5, m5, d5⟩ := S.c5
  rw [hv5] at d5
  obtain ⟨o6, m6, d6⟩ := S.c6
  rw [hv6] at d6
  obtain ⟨o7, m7, d7⟩ := S.c7
  rw [hv7] at d7
  have hlw := hvw.length
  have hle := hve.length
  obtain ⟨va, hva, aa, ka, vsa, rfl, ma, hra⟩ := hvw.get' hi
  have hI1 : ItemIs vw (i : Int) (.ref aa) := ItemIs.pos hva (by omega)
  have ma' := (S.hX _ ma).1
  have hla := hra.length
  obtain ⟨vx, hvx, tx, rfl⟩ := hra.get' hj
  have hI2 : ItemIs vsa (j : Int) (.str x tx) := ItemIs.pos hvx (by omega)
  obtain ⟨vy, hvy, ty, rfl⟩ := hve.get' he
  refine kG0 ?_
  clear kG0
  have hI3 : ItemIs ve (i : Int) (.str e ty) := ItemIs.pos hvy (by omega)
  revert X; k_fill; intro X
  have hme := map_put me
  have hml := map_put ml
  rw [hme, hml] at F
  rcases hc with ⟨hc1, hc2⟩ | ⟨hc1, hc2⟩
  · k_steps
    rename_i l9 h9 F9 N9 l1 tk9
    rw [← hml, ← hme] at F9
    exact k _ _ _ F9 N9 fun p hp => .tail _ hp
  · k_steps
    rename_i l9 h9 F9 N9 l1 tk9
    rw [← hml, ← hme] at F9
    exact k _ _ _ F9 N9 fun p hp => .tail _ hp
example : True := by w_top off; trivial
theorem stmt_chk4 {w : World} {mean : ExcName → Option Value} {mg mb : Str → Option Value} {h₀ : Heap} {L fa De Da Db : Addr} {cd : Value} {m : Str → Option Value} {news Xs : List (Addr × Obj)} {vs : Nat → Option Value} {s : Shared} {Q : Flow → Shared → Prop} {E : Value → Shared → Prop} {es : List Str} {i j : Nat} {ti tj : Tok} {e1 e2 : Str} {ysa ysb : List Value} {ka kb : Nat}
    (hl : es.length ≤ 20) (he1 : es[i]? = some e1) (he2 : es[j]? = some e2) (X : (lay.heap_1 w.params).In h₀) (T : Top V loo mean mg mb h₀) (B : Below callerA h₀ [] h₀) (F : Fr h₀ L s.heap m) (N : News h₀ L s.heap news)
    (S : LSt L news Xs vs) (hv6 : vs 6 = some (.int (i : Int) ti)) (hv7 : vs 7 = some (.int (j : Int) tj))
    (me : m (Str.ofString "ends") = some (.ref De)) (hE : StrsIn Xs (.ref De) es) (ma : m (Str.ofString "astray") = some (.ref Da)) (mda : (Da, ({ cls := .type "list", data := .seq (List.toArray ysa) ka } : Obj)) ∈ news)
    (mb' : m (Str.ofString "beyond") = some (.ref Db)) (mdb : (Db, ({ cls := .type "list", data := .seq (List.toArray ysb) kb } : Obj)) ∈ news)
    (hc : ysa = [] ↔ (e1 = e2 ∧ ysb = []))
    (k : ∀ h' tk' news', Fr h₀ L h' m → News h₀ L h' news' → (∀ p ∈ news, p ∈ news') → Q .next { s with heap := h', toks := tk' }) :
    wpAny (model PySem.Challenge.rw_zn0008_01.row.prog w) (callerA.deeper (lawE lawScope L fa cd)) (exec (cmpS 4) (lawE lawScope L fa cd)) Q E s := by
  refine law_open (st' := PySem.Stmt.If _ _ _ _) (sc' := ⟨_, _, _, _, _⟩) rfl rfl ?_
  refine Classical.byContradiction ?_; intro kG0
  obtain ⟨ke, ve, mE, hve⟩ := hE.get
  have mE' := (S.hX _ mE).1
  obtain ⟨o6, m6, d6⟩ := S.c6
  rw [hv6] at d6
  obtain ⟨o7, m7, d7⟩ := S.c7
  rw [hv7] at d7
  have hle := hve.length
  obtain ⟨vx, hvx, tx, rfl⟩ := hve.get' he1
  have hI2 : ItemIs ve (i : Int) (.str e1 tx) := ItemIs.pos hvx (by omega)
  obtain ⟨vy, hvy, ty, rfl⟩ := hve.get' he2
  refine kG0 ?_
  clear kG0
  have hI3 : ItemIs ve (j : Int) (.str e2 ty) := ItemIs.pos hvy (by omega)
  revert X; k_fill; intro X
  have hme := map_put me
  have hma := map_put ma
  have hmb := map_put mb'
  rw [hme, hma, hmb] at F
  by_cases hee : e1 = e2
  · have hee' : (e1 == e2) = true := beq_iff_eq.mpr hee
    by_cases hb : ysb = []
    · have ha : ysa = [] := hc.mpr ⟨hee, hb⟩
      k_steps
      rename_i l8 h8 l7 l9 h9 F9 N9 l1 tk9
      rw [← hmb, ← hma, ← hme] at F9
      exact k _ _ _ F9 N9 fun p hp => .tail _ (.tail _ hp)
    · have ha : ysa ≠ [] := fun h => hb (hc.mp h).2
      k_steps
      rename_i l8 h8 l7 l9 h9 F9 N9 l1 tk9
      rw [← hmb, ← hma, ← hme] at F9
      exact k _ _ _ F9 N9 fun p hp => .tail _ (.tail _ hp)
  · have hee' : (e1 == e2) = false := beq_eq_false_iff_ne.mpr hee
    have ha : ysa ≠ [] := fun h => hee (hc.mp h).1
    k_steps
    rename_i l9 h9 F9 N9 l1 tk9
    rw [← hmb, ← hma, ← hme] at F9
    exact k _ _ _ F9 N9 fun p hp => .tail _ hp
example : True := by w_top off; trivial
section
variable {w : World} {A : Around} {E : Value → Shared → Prop} {s : Shared} {h₀ : Heap} {L a b : Addr} {news X : List (Addr × Obj)} {vs us : List Value} {xs ys : List Str} {k k' : Nat} {p q : List Str × List Str} {Q : Value → Shared → Prop}
theorem eq_LSt (N : News h₀ L s.heap news) (hm : (a, ({ cls := .type "list", data := .seq (List.toArray vs) k } : Obj)) ∈ news) (hm' : (b, ({ cls := .type "list", data := .seq (List.toArray us) k' } : Obj)) ∈ news) (hx : AllV IsS vs xs) (hy : AllV IsS us ys) (hu : A.units < cLine) (he : xs = ys) (h : Q (.bool true) s) :
    wpAny (model PySem.Challenge.rw_zn0008_01.row.prog w) A (compareOp .Eq (.ref a) (.ref b)) Q E s := rc_LS (isList_of N hm) (isList_of N hm') hx hy hu _ w E Q (by rw [decide_eq_true he]; exact h)
theorem eq_LSf (N : News h₀ L s.heap news) (hm : (a, ({ cls := .type "list", data := .seq (List.toArray vs) k } : Obj)) ∈ news) (hm' : (b, ({ cls := .type "list", data := .seq (List.toArray us) k' } : Obj)) ∈ news) (hx : AllV IsS vs xs) (hy : AllV IsS us ys) (hu : A.units < cLine) (he : xs ≠ ys) (h : Q (.bool false) s) :
    wpAny (model PySem.Challenge.rw_zn0008_01.row.prog w) A (compareOp .Eq (.ref a) (.ref b)) Q E s := rc_LS (isList_of N hm) (isList_of N hm') hx hy hu _ w E Q (by rw [decide_eq_false he]; exact h)
theorem eq_Mt (N : News h₀ L s.heap news) (hX : ∀ p ∈ X, p ∈ news) (hp : MarkIn X (.ref a) p) (hq : MarkIn X (.ref b) q) (hu : A.units + 1 < cLine) (he : p = q) (h : Q (.bool true) s) :
    wpAny (model PySem.Challenge.rw_zn0008_01.row.prog w) A (compareOp .Eq (.ref a) (.ref b)) Q E s := rc_M N hX hp hq hu _ w E Q (by rw [decide_eq_true he]; exact h)
theorem eq_Mf (N : News h₀ L s.heap news) (hX : ∀ p ∈ X, p ∈ news) (hp : MarkIn X (.ref a) p) (hq : MarkIn X (.ref b) q) (hu : A.units + 1 < cLine) (he : p ≠ q) (h : Q (.bool false) s) :
    wpAny (model PySem.Challenge.rw_zn0008_01.row.prog w) A (compareOp .Eq (.ref a) (.ref b)) Q E s := rc_M N hX hp hq hu _ w E Q (by rw [decide_eq_false he]; exact h)
end
example : True := by
  k_with "compareOp Eq ref ref" => (k_here; k_dflt (first | (refine' eq_LSt ?N ?hm ?hm' ?hx ?hy ?hu ?he ?_; (case N => k_asm); (case hm => assumption); (case hm' => assumption); (case hx => assumption); (case hy => assumption); (case hu => exact Nat.le_of_ble_eq_true rfl); (case he => assumption); k_whole) | (refine' eq_Mt ?N ?hX ?hp ?hq ?hu ?he ?_; (case N => k_asm); (case hp => assumption); (case hq => assumption); (case hX => assumption); (case hu => exact Nat.le_of_ble_eq_true rfl); (case he => assumption); k_whole)))
  trivial
example : True := by
  k_with "compareOp Eq ref ref" => (k_here; k_dflt (first | (refine' eq_LSf ?N ?hm ?hm' ?hx ?hy ?hu ?he ?_; (case N => k_asm); (case hm => assumption); (case hm' => assumption); (case hx => assumption); (case hy => assumption); (case hu => exact Nat.le_of_ble_eq_true rfl); (case he => assumption); k_whole) | (refine' eq_Mf ?N ?hX ?hp ?hq ?hu ?he ?_; (case N => k_asm); (case hp => assumption); (case hq => assumption); (case hX => assumption); (case hu => exact Nat.le_of_ble_eq_true rfl); (case he => assumption); k_whole)))
  trivial
theorem stmt_chk5 {w : World} {mean : ExcName → Option Value} {mg mb : Str → Option Value} {h₀ : Heap} {L fa Wt Dm : Addr} {cd : Value} {m : Str → Option Value} {news Xs : List (Addr × Obj)} {vs : Nat → Option Value} {s : Shared} {Q : Flow → Shared → Prop} {E : Value → Shared → Prop} {tss : List (List Str)} {ps : List (List Str × List Str)} {i j : Nat} {ti tj : Tok} {r1 r2 : List Str} {p1 p2 : List Str × List Str}
    (hl : tss.length ≤ 20 ∧ ps.length ≤ 20) (hi : tss[i]? = some r1) (hj : tss[j]? = some r2) (hp1 : ps[i]? = some p1) (hp2 : ps[j]? = some p2) (X : (lay.heap_1 w.params).In h₀) (T : Top V loo mean mg mb h₀) (B : Below callerA h₀ [] h₀) (F : Fr h₀ L s.heap m) (N : News h₀ L s.heap news)
    (S : LSt L news Xs vs) (hv2 : vs 2 = some (.ref Wt)) (hW : SeqIn "list" StrsIn Xs (.ref Wt) tss) (hv6 : vs 6 = some (.int (i : Int) ti)) (hv7 : vs 7 = some (.int (j : Int) tj))
    (mm : m (Str.ofString "marks") = some (.ref Dm)) (hP : SeqIn "list" MarkIn Xs (.ref Dm) ps) (hc : r1 = r2 ↔ p1 = p2)
    (k : ∀ tk', Q .next { s with toks := tk' }) :
    wpAny (model PySem.Challenge.rw_zn0008_01.row.prog w) (callerA.deeper (lawE lawScope L fa cd)) (exec (cmpS 5) (lawE lawScope L fa cd)) Q E s := by
  refine law_open (st' := PySem.Stmt.If _ _ _ _) (sc' := ⟨_, _, _, _, _⟩) rfl rfl ?_
  refine Classical.byContradiction ?_; intro kG0
  obtain ⟨kw, vw, mW, hvw⟩ := hW.get
  have mW' := (S.hX _ mW).1
  obtain ⟨kp, vp, mP, hvp⟩ := hP.get
  have mP' := (S.hX _ mP).1
  obtain ⟨o2, m2, d2⟩ := S.c2
  rw [hv2] at d2
  obtain ⟨o6, m6, d6⟩ := S.c6
  rw [hv6] at d6
  obtain ⟨o7, m7, d7⟩ := S.c7
  rw [hv7] at d7
  have hlw := hvw.length
  have hlp := hvp.length
  obtain ⟨va, hva, aa, ka, vsa, rfl, ma, hra⟩ := hvw.get' hi
  have hI1 : ItemIs vw (i : Int) (.ref aa) := ItemIs.pos hva (by omega)
  have ma' := (S.hX _ ma).1
  obtain ⟨vb, hvb, ab, kb, vsb, rfl, mb', hrb⟩ := hvw.get' hj
  have hI2 : ItemIs vw (j : Int) (.ref ab) := ItemIs.pos hvb (by omega)
  have mb2 := (S.hX _ mb').1
  obtain ⟨vc, hvc, hmc⟩ := hvp.get' hp1
  obtain ⟨ac, nc, x1, x2, rfl, hmc'⟩ := id hmc
  have hI3 : ItemIs vp (i : Int) (.ref ac) := ItemIs.pos hvc (by omega)
  obtain ⟨vd, hvd, hmd⟩ := hvp.get' hp2
  obtain ⟨ad, nd, y1, y2, rfl, hmd'⟩ := id hmd
  refine kG0 ?_
  clear kG0
  have hI4 : ItemIs vp (j : Int) (.ref ad) := ItemIs.pos hvd (by omega)
  have hXn : ∀ p ∈ Xs, p ∈ news := fun p hp => (S.hX p hp).1
  revert X; k_fill; intro X
  have hmm := map_put mm
  rw [hmm] at F
  by_cases hrr : r1 = r2
  · have hpp := hc.mp hrr
    k_steps
    exact k _
  · have hpp : p1 ≠ p2 := fun h => hrr (hc.mpr h)
    k_steps
    exact k _
example : True := by w_top off; trivial
/-! tables of text keys: look, put, keys -/
theorem look_cons {α : Type} (p : Str × α) (c : List (Str × α)) (x : Str) : lookK (p :: c) x = if p.1 = x then some p.2 else lookK c x := by
  unfold lookK; rw [List.find?_cons]; by_cases h : p.1 = x <;> simp [h]
theorem look_nil {α : Type} (x : Str) : lookK ([] : List (Str × α)) x = none := rfl
theorem look_some {α : Type} {b : List (Str × α)} {x : Str} : (∃ a, lookK b x = some a) ↔ x ∈ keysOf b := by
  have := lookK_none (b := b) (x := x)
  cases h : lookK b x with
  | none => rw [h] at this; simp [this.mp rfl]
  | some a => rw [h] at this; exact ⟨fun _ => Decidable.byContradiction fun hn => (nomatch this.mpr hn), fun _ => ⟨a, rfl⟩⟩
theorem look_map {α : Type} (k : Str) (a : α) (x : Str) : ∀ c : List (Str × α), lookK (c.map fun p => if p.1 = k then (p.1, a) else p) x = if x = k ∧ k ∈ keysOf c then some a else lookK c x
  | [] => by simp [keysOf, lookK]
  | p :: c => by
    rw [List.map_cons, look_cons, look_cons, look_map k a x c]
    have e : keysOf (p :: c) = p.1 :: keysOf c := rfl
    rw [e]
    by_cases h : p.1 = k
    · by_cases hx : x = k
      · subst hx; simp [h]
      · have hx' : ¬ k = x := fun q => hx q.symm
        simp [h, hx, hx']
    · by_cases hx : x = k
      · subst hx
        have h' : ¬ x = p.1 := fun q => h q.symm
        simp [h, h']
      · simp [h, hx]
theorem any_keys {α : Type} (c : List (Str × α)) (k : Str) : (c.any fun p => decide (p.1 = k)) = true ↔ k ∈ keysOf c := by
  unfold keysOf; rw [List.any_eq_true, List.mem_map]; simp
theorem look_append {α : Type} (c d : List (Str × α)) (x : Str) : lookK (c ++ d) x = if x ∈ keysOf c then lookK c x else lookK d x := by
  induction c with
  | nil => simp [keysOf]
  | cons p c ih =>
    rw [List.cons_append, look_cons, look_cons, ih]
    have e : keysOf (p :: c) = p.1 :: keysOf c := rfl
    rw [e]
    by_cases h : p.1 = x
    · simp [h]
    · have h' : ¬ x = p.1 := fun q => h q.symm
      simp [h, h']
theorem look_put {α : Type} (c : List (Str × α)) (k x : Str) (a : α) : lookK (putK c k a) x = if x = k then some a else lookK c x := by
  unfold putK
  by_cases h : k ∈ keysOf c
  · rw [if_pos ((any_keys c k).mpr h), look_map]; simp [h]
  · rw [if_neg (fun q => h ((any_keys c k).mp q)), look_append, look_cons, look_nil]
    by_cases hx : x = k
    · subst hx; simp [h]
    · have hx' : ¬ k = x := fun q => hx q.symm
      by_cases hm : x ∈ keysOf c
      · simp [hx, hm]
      · rw [if_neg hm, if_neg hx', if_neg hx, lookK_none.mpr hm]
theorem keys_put {α : Type} (c : List (Str × α)) (k x : Str) (a : α) : x ∈ keysOf (putK c k a) ↔ x = k ∨ x ∈ keysOf c := by
  rw [← look_some, look_put, ← look_some]
  by_cases h : x = k
  · simp [h]
  · simp [h]
theorem nodup_put {α : Type} (c : List (Str × α)) (k : Str) (a : α) (h : (keysOf c).Nodup) : (keysOf (putK c k a)).Nodup := by
  unfold putK
  split
  · rw [show keysOf (c.map fun p => if p.1 = k then (p.1, a) else p) = keysOf c from by
      unfold keysOf; rw [List.map_map]; apply List.map_congr_left; intro p _; show (if p.1 = k then (p.1, a) else p).1 = p.1; split <;> rfl]
    exact h
  · rename_i hn
    have hk : k ∉ keysOf c := fun q => hn ((any_keys c k).mpr q)
    unfold keysOf at *
    rw [List.map_append, List.nodup_append]
    exact ⟨h, List.pairwise_singleton _ _, fun x hx y hy => by rw [List.map_cons, List.map_nil, List.mem_singleton] at hy; subst hy; exact fun q => hk (q ▸ hx)⟩
theorem look_of_mem {α : Type} : ∀ {b : List (Str × α)}, (keysOf b).Nodup → ∀ p ∈ b, lookK b p.1 = some p.2
  | [], _, p, h => nomatch h
  | q :: b, hn, p, h => by
    have hn' : q.1 ∉ keysOf b ∧ (keysOf b).Nodup := List.nodup_cons.mp hn
    rw [look_cons]
    rcases List.mem_cons.mp h with rfl | h
    · rw [if_pos rfl]
    · rw [if_neg (fun e : q.1 = p.1 => hn'.1 (e ▸ List.mem_map_of_mem h)), look_of_mem hn'.2 p h]
theorem tab_of {α : Type} {R : α → α → Prop} {b c : List (Str × α)} (hb : (keysOf b).Nodup) (hc : (keysOf c).Nodup)
    (h : ∀ x, (lookK b x = none ∧ lookK c x = none) ∨ ∃ p q, lookK b x = some p ∧ lookK c x = some q ∧ R p q) : TabEq R b c := by
  constructor
  · have hp : (keysOf b).Perm (keysOf c) := (List.perm_ext_iff_of_nodup hb hc).mpr fun x => by
      rw [← look_some, ← look_some]
      rcases h x with ⟨e, f⟩ | ⟨p, q, e, f, _⟩
      · rw [e, f]
      · rw [e, f]; simp
    have := hp.length_eq
    unfold keysOf at this
    simpa using this
  · intro p hp
    have e := look_of_mem hb p hp
    rcases h p.1 with ⟨f, _⟩ | ⟨y, z, f, g, r⟩
    · rw [e] at f; cases f
    · rw [e] at f; cases f; exact ⟨z, g, r⟩
/-- a table's copy looks as it does -/
theorem copyC_look (l : List (Str × Int)) (hl : (keysOf l).Nodup) : (∀ x, lookK (copyC l) x = lookK l x) ∧ (keysOf (copyC l)).Nodup := by
  have main : ∀ (r acc : List (Str × Int)), (keysOf r).Nodup → (keysOf acc).Nodup → (∀ x, lookK (r.foldl (fun acc p => putK acc p.1 p.2) acc) x = if x ∈ keysOf r then lookK r x else lookK acc x) ∧ (keysOf (r.foldl (fun acc p => putK acc p.1 p.2) acc)).Nodup := by
    intro r
    induction r with
    | nil => intro acc _ h; exact ⟨fun x => by simp [keysOf], h⟩
    | cons p r ih =>
      intro acc hr ha
      have hn' : p.1 ∉ keysOf r ∧ (keysOf r).Nodup := List.nodup_cons.mp hr
      obtain ⟨a1, a2⟩ := ih (putK acc p.1 p.2) hn'.2 (nodup_put _ _ _ ha)
      refine ⟨fun x => ?_, a2⟩
      rw [List.foldl_cons, a1, look_put, look_cons]
      have e : keysOf (p :: r) = p.1 :: keysOf r := rfl
      rw [e]
      by_cases hx : p.1 = x
      · subst hx; simp [hn'.1]
      · have hx' : ¬ x = p.1 := fun q => hx q.symm
        simp [hx, hx']
  obtain ⟨a1, a2⟩ := main l [] hl List.nodup_nil
  refine ⟨fun x => ?_, a2⟩
  rw [show copyC l = l.foldl (fun acc p => putK acc p.1 p.2) [] from rfl, a1]
  by_cases hx : x ∈ keysOf l
  · rw [if_pos hx]
  · rw [if_neg hx, lookK_none.mpr hx]; rfl
/-- one call more from o -/
theorem addC_one (l : List (Str × Int)) (o : Str) (hl : (keysOf l).Nodup) : (keysOf (addC l [(o, 1)])).Nodup ∧ ∀ x, lookK (addC l [(o, 1)]) x = if x = o then some ((lookK l o).getD 0 + 1) else lookK l x := by
  obtain ⟨a1, a2⟩ := copyC_look l hl
  refine ⟨nodup_put _ _ _ a2, fun x => ?_⟩
  show lookK (putK (copyC l) o (match lookK (copyC l) o with | some x => x + 1 | none => 1)) x = _
  rw [look_put, a1, a1]
  by_cases hx : x = o
  · rw [if_pos hx, if_pos hx]; cases lookK l o with
    | none => rfl
    | some a => rfl
  · rw [if_neg hx, if_neg hx]
/-- the numbers' sum -/
noncomputable def sumV (l : List (Str × Int)) : Int := (l.map (·.2)).sum
theorem sum_map_put (k : Str) (a : Int) : ∀ c : List (Str × Int), (keysOf c).Nodup → sumV (c.map fun p => if p.1 = k then (p.1, a) else p) = sumV c + (match lookK c k with | some x => a - x | none => 0)
  | [], _ => by simp [sumV, lookK]
  | p :: c, hn => by
    have hn' : p.1 ∉ keysOf c ∧ (keysOf c).Nodup := List.nodup_cons.mp hn
    have ih := sum_map_put k a c hn'.2
    have e : ∀ (q : Str × Int) (r : List (Str × Int)), sumV (q :: r) = q.2 + sumV r := fun q r => by simp [sumV]
    rw [List.map_cons, e, ih, e, look_cons]
    by_cases h : p.1 = k
    · rw [if_pos h, if_pos h, show lookK c k = none from lookK_none.mpr (h ▸ hn'.1)]
      show a + (sumV c + 0) = p.2 + sumV c + (a - p.2); omega
    · rw [if_neg h, if_neg h]; omega
theorem sum_put (c : List (Str × Int)) (k : Str) (a : Int) (hn : (keysOf c).Nodup) : sumV (putK c k a) = sumV c + a - (lookK c k).getD 0 := by
  unfold putK
  by_cases h : k ∈ keysOf c
  · rw [if_pos ((any_keys c k).mpr h), sum_map_put k a c hn]
    obtain ⟨x, hx⟩ := look_some.mpr h
    rw [hx]; show _ + (a - x) = _ - x; omega
  · rw [if_neg (fun q => h ((any_keys c k).mp q)), lookK_none.mpr h]
    simp [sumV]
theorem copyC_sum (l : List (Str × Int)) (hl : (keysOf l).Nodup) : sumV (copyC l) = sumV l := by
  have main : ∀ (r acc : List (Str × Int)), (keysOf r).Nodup → (keysOf acc).Nodup → (∀ x ∈ keysOf r, x ∉ keysOf acc) → sumV (r.foldl (fun acc p => putK acc p.1 p.2) acc) = sumV acc + sumV r := by
    intro r
    induction r with
    | nil => intro acc _ _ _; simp [sumV]
    | cons p r ih =>
      intro acc hr ha hd
      have hn' : p.1 ∉ keysOf r ∧ (keysOf r).Nodup := List.nodup_cons.mp hr
      have e : sumV (p :: r) = p.2 + sumV r := by simp [sumV]
      rw [List.foldl_cons, ih (putK acc p.1 p.2) hn'.2 (nodup_put _ _ _ ha) (fun x hx => ?_), sum_put _ _ _ ha, e, lookK_none.mpr (hd p.1 List.mem_cons_self)]
      · show sumV acc + p.2 - 0 + sumV r = _; omega
      · rw [keys_put]
        rintro (q | q)
        · exact hn'.1 (q ▸ hx)
        · exact hd x (.tail _ hx) q
  have := main l [] hl List.nodup_nil (fun _ _ h => nomatch h)
  rw [show copyC l = l.foldl (fun acc p => putK acc p.1 p.2) [] from rfl, this]
  simp [sumV]
theorem addC_one_sum (l : List (Str × Int)) (o : Str) (hl : (keysOf l).Nodup) : sumV (addC l [(o, 1)]) = sumV l + 1 := by
  obtain ⟨a1, a2⟩ := copyC_look l hl
  show sumV (putK (copyC l) o (match lookK (copyC l) o with | some x => x + 1 | none => 1)) = _
  rw [sum_put _ _ _ a2, copyC_sum l hl]
  cases lookK (copyC l) o with
  | none => show _ + 1 - 0 = _; omega
  | some x => show _ + (x + 1) - x = _; omega
example : True := by w_top off; trivial
/-! places as texts -/
theorem cOf_inj {a b : Int} (ha : a = 1 ∨ a = -1 ∨ a = 2 ∨ a = -2) (hb : b = 1 ∨ b = -1 ∨ b = 2 ∨ b = -2) (h : cOf a = cOf b) : a = b := by
  rcases ha with rfl | rfl | rfl | rfl <;> rcases hb with rfl | rfl | rfl | rfl <;> first | rfl | (revert h; decide)
theorem Four.tl {n : Int} {r : List Int} (h : Four (n :: r)) : (n = 1 ∨ n = -1 ∨ n = 2 ∨ n = -2) ∧ Four r := ⟨h n List.mem_cons_self, fun k hk => h k (.tail _ hk)⟩
theorem flat_inj : ∀ {g h : List Int}, Four g → Four h → (g.flatMap fun n => [125, cOf n]) = (h.flatMap fun n => [125, cOf n]) → g = h
  | [], [], _, _, _ => rfl
  | [], _ :: _, _, _, e => by simp at e
  | _ :: _, [], _, _, e => by simp at e
  | a :: g, b :: h, hg, hh, e => by
    rw [List.flatMap_cons, List.flatMap_cons] at e
    simp only [List.cons_append, List.nil_append, List.cons.injEq, true_and] at e
    rw [cOf_inj hg.tl.1 hh.tl.1 e.1, flat_inj hg.tl.2 hh.tl.2 e.2]
theorem placeS_inj {g h : List Int} (hg : Four g) (hh : Four h) (e : placeS g = placeS h) : g = h := by
  have e' := mkS_inj e
  have hl : g.length = h.length := by have := congrArg List.length e'; rw [placeL_len, placeL_len] at this; omega
  unfold placeL at e'
  rw [hl] at e'
  exact flat_inj hg hh (List.append_cancel_left e')
theorem placeS_nil : placeS [] = Str.ofString "" := sNil.symm
theorem placeL_snoc (h : List Int) (x : Int) : placeL (h ++ [x]) = 123 :: (placeL h ++ [125, cOf x]) := by
  unfold placeL
  rw [List.length_append, List.length_cons, List.length_nil, List.flatMap_append, Nat.zero_add, List.replicate_succ]
  simp
theorem placeS_ne_nil (h : List Int) (x : Int) : placeS (h ++ [x]) ≠ Str.ofString "" := fun e => by
  have := congrArg Str.length e
  rw [placeS_len, sNil, mkS_len, List.length_append] at this
  simp at this
theorem slice_mid (a b c : Nat) (l : List Nat) : Txt.slice (mkS (a :: (l ++ [b, c]))) (some 1) (some (-2)) = mkS l := by
  have hn : (mkS (a :: (l ++ [b, c]))).length = l.length + 3 := by rw [mkS_len]; simp
  have e : Txt.slice (mkS (a :: (l ++ [b, c]))) (some 1) (some (-2)) = StrLaws.sliceText (mkS (a :: (l ++ [b, c]))) (some 1) (some ((l.length : Int) + 1)) := by
    unfold Txt.slice StrLaws.sliceText
    rw [show PySem.Builtin.Str.strSliceIndices (some 1) (some (-2)) 1 (mkS (a :: (l ++ [b, c]))).length = PySem.Builtin.Str.strSliceIndices (some 1) (some ((l.length : Int) + 1)) 1 (mkS (a :: (l ++ [b, c]))).length from by
      rw [hn]
      unfold PySem.Builtin.Str.strSliceIndices
      simp only
      have h2 : ¬ ((l.length : Int) + 1 < 0) := Int.not_lt.mpr (Int.add_nonneg (Int.natCast_nonneg _) (by decide))
      have e2 : (-2 : Int) + ((l.length + 3 : Nat) : Int) = (l.length : Int) + 1 := by omega
      rw [if_pos (show ((-2 : Int) < 0) by decide), if_neg h2, e2]]
  rw [e, StrLaws.sliceText_plain ⟨by omega, by omega, by rw [mkS_codes]; simp; omega⟩, mkS_codes]
  unfold mkS
  congr 2
  have h3 : ((l.length : Int) + 1 - 1).toNat = l.length := by omega
  rw [h3]
  show ((a :: (l ++ [b, c])).drop 1).take l.length = l
  simp
theorem aheadS_place (h : List Int) (x : Int) : aheadS (placeS (h ++ [x])) = placeS h := by
  unfold aheadS placeS; rw [placeL_snoc, slice_mid]
theorem item_last (l : List Nat) (c : Nat) : Txt.item (mkS (l ++ [c])) (-1) = ⟨#[c]⟩ := by
  have hn : (mkS (l ++ [c])).length = l.length + 1 := by rw [mkS_len]; simp
  unfold Txt.item Txt.charAt
  rw [hn, StrLaws.seqIndex_neg (by omega) (by omega), show (-1 + ((l.length + 1 : Nat) : Int)).toNat = l.length by omega]
  show (⟨#[((mkS (l ++ [c])).cps[l.length]?).getD 0]⟩ : Str) = _
  unfold mkS
  simp
theorem one_mk (c : Nat) : (⟨#[c]⟩ : Str) = mkS [c] := rfl
theorem beside_on {h : List Int} {n : Int} (c : Nat) (hc : c = cOf n) : Str.ofString "{" ++ placeS h ++ Str.ofString "}" ++ (⟨#[c]⟩ : Str) = placeS (h ++ [n]) := by
  rw [hc, sOpen, sClose, one_mk]
  unfold placeS
  rw [mkS_app, mkS_app, mkS_app, placeL_snoc]
  simp
theorem signs_meet {x n : Int} (hx : x = 1 ∨ x = -1 ∨ x = 2 ∨ x = -2) (hn : n = 1 ∨ n = -1 ∨ n = 2 ∨ n = -2) :
    (((⟨#[cOf x]⟩ : Str) == ⟨#[cOf n]⟩) = false ∧ (Txt.lower ⟨#[cOf x]⟩ == Txt.lower ⟨#[cOf n]⟩) = true) ↔ x + n = 0 := by
  rcases hx with rfl | rfl | rfl | rfl <;> rcases hn with rfl | rfl | rfl | rfl <;> decide +kernel
/-- a sign from a place is a step of the heads -/
theorem beside_place {h : List Int} {n : Int} (h4 : Four h) (hn : n = 1 ∨ n = -1 ∨ n = 2 ∨ n = -2) : besideF (placeS h) ⟨#[cOf n]⟩ = placeS (headStep h n) := by
  rcases List.eq_nil_or_concat h with rfl | ⟨g, x, e⟩
  · unfold besideF
    rw [if_neg (fun q => by rw [placeS_nil] at q; exact absurd q.1 (by decide +kernel)), beside_on _ rfl]; rfl
  · rw [List.concat_eq_append] at e
    subst e
    rw [headStep_snoc]
    have hx := h4 x (List.mem_append.mpr (.inr (List.mem_singleton.mpr rfl)))
    have hi : Txt.item (placeS (g ++ [x])) (-1) = ⟨#[cOf x]⟩ := by
      unfold placeS; rw [placeL_snoc, show (123 :: (placeL g ++ [125, cOf x])) = (123 :: (placeL g ++ [125])) ++ [cOf x] by simp, item_last]
    unfold besideF
    rw [hi]
    by_cases hz : x + n = 0
    · have := (signs_meet hx hn).mpr hz
      rw [if_pos ⟨by simpa using placeS_ne_nil g x, this⟩, if_pos hz]
      exact aheadS_place g x
    · rw [if_neg (fun q => hz ((signs_meet hx hn).mp q.2)), if_neg hz, beside_on _ rfl]
theorem failed_ne (h : List Int) : failedT ≠ placeS h := fun e => by
  have := congrArg Str.length e
  rw [placeS_len, show failedT.length = 25 from by decide +kernel] at this
  omega
theorem failed_on {n : Int} (hn : n = 1 ∨ n = -1 ∨ n = 2 ∨ n = -2) (h : List Int) : besideF failedT ⟨#[cOf n]⟩ ≠ placeS h := fun e => by
  have := congrArg Str.length e
  rw [placeS_len] at this
  have e : (besideF failedT ⟨#[cOf n]⟩).length = 28 := by rcases hn with rfl | rfl | rfl | rfl <;> decide +kernel
  omega
theorem headStep_four {h : List Int} {n : Int} (h4 : Four h) (hn : n = 1 ∨ n = -1 ∨ n = 2 ∨ n = -2) : Four (headStep h n) := by
  unfold headStep
  split
  · split
    · exact fun k hk => h4 k (List.dropLast_subset _ hk)
    · exact h4.snoc hn
  · exact h4.snoc hn
example : True := by w_top off; trivial
/-! how often a word's walk comes to a place, and from where -/
noncomputable def nmF (ws : List Int) (j : Nat) : Str := placeS (headEnd (ws.take j))
noncomputable def mvF (ws : List Int) (a b : Str) : Nat → Nat
  | 0 => 0
  | k + 1 => mvF ws a b k + if nmF ws k = a ∧ nmF ws (k + 1) = b then 1 else 0
noncomputable def namesF (ws : List Int) : List Str := (headsF ws).map placeS
theorem names_len (ws : List Int) : (namesF ws).length = ws.length + 1 := by unfold namesF headsF; simp
theorem names_get {ws : List Int} {j : Nat} (hj : j ≤ ws.length) : (namesF ws)[j]? = some (nmF ws j) := by
  unfold namesF headsF
  rw [List.getElem?_map, List.getElem?_map, List.getElem?_range (Nat.lt_succ_of_le hj)]; rfl
theorem nm_zero (ws : List Int) : nmF ws 0 = Str.ofString "" := by unfold nmF; rw [List.take_zero]; exact placeS_nil
theorem nm_four {ws : List Int} (h : Four ws) (j : Nat) : Four (headEnd (ws.take j)) := headEnd_four fun k hk => h k (List.mem_of_mem_take hk)
theorem nm_succ {ws : List Int} (h : Four ws) {k : Nat} (hk : k < ws.length) : nmF ws (k + 1) = besideF (nmF ws k) ⟨#[(ws.map cOf).getD k 0]⟩ := by
  have hg : ws[k]? = some ws[k] := List.getElem?_eq_getElem hk
  unfold nmF
  rw [headEnd_take hg, show (ws.map cOf).getD k 0 = cOf ws[k] from by rw [List.getD_eq_getElem?_getD, List.getElem?_map, hg]; rfl, beside_place (nm_four h k) (h _ (List.getElem_mem hk))]
noncomputable def TF (ws : List Int) (x : Str) (k : Nat) : List Int := timesU (namesF ws) x (k + 1)
theorem T_zero (ws : List Int) (x : Str) : TF ws x 0 = if x = Str.ofString "" then [0] else [] := by
  unfold TF
  have e := names_get (ws := ws) (j := 0) (Nat.zero_le _)
  rw [nm_zero] at e
  by_cases h : x = Str.ofString ""
  · rw [if_pos h, timesU_succ_t (by rw [e, h]; simp)]; rfl
  · rw [if_neg h, timesU_succ_f (by rw [e]; simpa using fun q => h q.symm)]; rfl
theorem T_on {ws : List Int} {x : Str} {k : Nat} (hk : k < ws.length) (h : nmF ws (k + 1) = x) : TF ws x (k + 1) = TF ws x k ++ [((k + 1 : Nat) : Int)] :=
  timesU_succ_t (by rw [names_get hk, h]; simp)
theorem T_off {ws : List Int} {x : Str} {k : Nat} (hk : k < ws.length) (h : nmF ws (k + 1) ≠ x) : TF ws x (k + 1) = TF ws x k :=
  timesU_succ_f (by rw [names_get hk]; simpa using h)
theorem T_none {ws : List Int} {x : Str} : ∀ {k : Nat}, k ≤ ws.length → (∀ j, j ≤ k → nmF ws j ≠ x) → TF ws x k = []
  | 0, _, h => by rw [T_zero, if_neg (fun e => h 0 (Nat.le_refl _) (by rw [nm_zero, e]))]
  | k + 1, hk, h => by rw [T_off hk (h _ (Nat.le_refl _)), T_none (Nat.le_of_succ_le hk) fun j hj => h j (Nat.le_succ_of_le hj)]
theorem mv_none {ws : List Int} {a b : Str} : ∀ {k : Nat}, (∀ j, j ≤ k → nmF ws j ≠ b) → mvF ws a b k = 0
  | 0, _ => rfl
  | k + 1, h => by unfold mvF; rw [mv_none (k := k) fun j hj => h j (Nat.le_succ_of_le hj), if_neg (fun q => h _ (Nat.le_refl _) q.2)]
theorem mv_off {ws : List Int} {a b : Str} {k : Nat} (h : nmF ws (k + 1) ≠ b) : mvF ws a b (k + 1) = mvF ws a b k := by
  show mvF ws a b k + _ = _; rw [if_neg (fun q => h q.2)]; rfl
theorem mv_on {ws : List Int} {a b : Str} {k : Nat} (h : nmF ws (k + 1) = b) : mvF ws a b (k + 1) = mvF ws a b k + if nmF ws k = a then 1 else 0 := by
  show mvF ws a b k + _ = _; simp only [h, and_true]
theorem mv_le {ws : List Int} {a b : Str} {j : Nat} : ∀ {k : Nat}, j ≤ k → mvF ws a b j ≤ mvF ws a b k
  | 0, h => by rw [Nat.le_zero.mp h]; exact Nat.le_refl _
  | k + 1, h => by
    rcases Nat.lt_or_ge j (k + 1) with h | h
    · exact Nat.le_trans (mv_le (k := k) (Nat.le_of_lt_succ h)) (Nat.le_add_right _ _)
    · rw [show j = k + 1 by omega]; exact Nat.le_refl _
theorem mv_pos {ws : List Int} {a b : Str} : ∀ {k : Nat}, mvF ws a b k ≠ 0 → ∃ j, j < k ∧ nmF ws j = a ∧ nmF ws (j + 1) = b
  | 0, h => absurd rfl h
  | k + 1, h => by
    by_cases q : nmF ws k = a ∧ nmF ws (k + 1) = b
    · exact ⟨k, Nat.lt_succ_self k, q⟩
    · have : mvF ws a b k ≠ 0 := fun e => h (by show mvF ws a b k + _ = 0; rw [if_neg q, e])
      obtain ⟨j, hj, r⟩ := mv_pos this
      exact ⟨j, Nat.lt_succ_of_lt hj, r⟩
theorem origU_app (names : List Str) (a b : List Int) : origU names (a ++ b) = origU names a ++ origU names b := by unfold origU; rw [List.filterMap_append]
theorem leftU_app (n : Nat) (a b : List Int) : leftU n (a ++ b) = leftU n a ++ leftU n b := by unfold leftU; rw [List.map_append]
theorem orig_count {ws : List Int} {x o : Str} : ∀ {k : Nat}, k ≤ ws.length → (origU (namesF ws) (TF ws x k)).count o = mvF ws o x k
  | 0, _ => by
    rw [T_zero]
    split
    · rfl
    · rfl
  | k + 1, hk => by
    have ih := orig_count (ws := ws) (x := x) (o := o) (k := k) (Nat.le_of_succ_le hk)
    by_cases h : nmF ws (k + 1) = x
    · rw [T_on hk h, mv_on h, origU_app, List.count_append, ih]
      have e : origU (namesF ws) [((k + 1 : Nat) : Int)] = [nmF ws k] := by
        unfold origU
        rw [List.filterMap_cons, if_pos (by omega), show (((k + 1 : Nat) : Int) - 1).toNat = k by omega, names_get (Nat.le_of_succ_le hk)]; rfl
      rw [e, List.count_singleton]
      simp only [beq_iff_eq]
    · rw [T_off hk h, mv_off h, ih]
theorem tab_look (os : List Str) : ∀ (l : List Str) (t : List (Str × Int)), (keysOf t).Nodup → (keysOf (l.foldl (fun t o => putK t o (os.count o : Int)) t)).Nodup ∧ ∀ o, lookK (l.foldl (fun t o => putK t o (os.count o : Int)) t) o = if o ∈ l then some (os.count o : Int) else lookK t o
  | [], t, h => ⟨h, fun o => by simp⟩
  | p :: l, t, h => by
    obtain ⟨a, b⟩ := tab_look os l (putK t p (os.count p : Int)) (nodup_put _ _ _ h)
    refine ⟨a, fun o => ?_⟩
    rw [List.foldl_cons, b, look_put]
    by_cases h1 : o = p
    · subst h1; simp
    · simp [h1]
theorem tabU_look (os : List Str) : (keysOf (tabU os os)).Nodup ∧ ∀ o, lookK (tabU os os) o = if os.count o = 0 then none else some (os.count o : Int) := by
  obtain ⟨a, b⟩ := tab_look os os [] List.nodup_nil
  refine ⟨a, fun o => ?_⟩
  rw [show tabU os os = os.foldl (fun t o => putK t o (os.count o : Int)) [] from rfl, b]
  by_cases h : o ∈ os
  · rw [if_pos h, if_neg (fun e => (List.count_eq_zero.mp e) h)]
  · rw [if_neg h, if_pos (List.count_eq_zero.mpr h)]; rfl
theorem due_look (names : List Str) : ∀ i, (keysOf (dueUp names i)).Nodup ∧ ∀ x, lookK (dueUp names i) x = if x ∈ names.take i then some (dueStat names x) else none
  | 0 => ⟨List.nodup_nil, fun x => rfl⟩
  | i + 1 => by
    obtain ⟨a, b⟩ := due_look names i
    cases h : names[i]? with
    | none =>
      have e : names.take (i + 1) = names.take i := by rw [List.take_add_one, h]; simp
      have e' : dueUp names (i + 1) = dueUp names i := by unfold dueUp; rw [e]
      rw [e, e']; exact ⟨a, b⟩
    | some y =>
      have e : names.take (i + 1) = names.take i ++ [y] := by rw [List.take_add_one, h]; rfl
      rw [dueUp_succ h, e]
      unfold dueOne
      have hy := b y
      cases hl : lookK (dueUp names i) y with
      | some st =>
        rw [hl] at hy
        have hm : y ∈ names.take i := Decidable.byContradiction fun q => by rw [if_neg q] at hy; cases hy
        refine ⟨a, fun x => ?_⟩
        show lookK (dueUp names i) x = _
        rw [b x]
        by_cases hx : x = y
        · subst hx; simp [hm]
        · simp [hx]
      | none =>
        refine ⟨nodup_put _ _ _ a, fun x => ?_⟩
        show lookK (putK (dueUp names i) y (dueStat names y)) x = _
        rw [look_put, b x]
        by_cases hx : x = y
        · subst hx; simp
        · simp [hx]
example : True := by w_top off; trivial
/-! what a book tells, by counts -/
noncomputable def StOk (ws : List Int) (x : Str) (k : Nat) (q : Stat) : Prop :=
  q.nc = ((TF ws x k).length : Int) ∧ q.tt = (TF ws x k).sum ∧ q.ct = (leftU (ws.length + 1) (TF ws x k)).sum ∧ (keysOf q.cal).Nodup ∧
  (∀ o, lookK q.cal o = if mvF ws o x k = 0 then none else some (mvF ws o x k : Int)) ∧ sumV q.cal = q.nc - if x = Str.ofString "" then 1 else 0
theorem StOk.off {ws : List Int} {x : Str} {k : Nat} {q : Stat} (h : StOk ws x k q) (hk : k < ws.length) (hx : nmF ws (k + 1) ≠ x) : StOk ws x (k + 1) q := by
  unfold StOk at *
  rw [T_off hk hx]
  obtain ⟨a, b, c, d, e, f⟩ := h
  exact ⟨a, b, c, d, fun o => by rw [mv_off hx]; exact e o, f⟩
theorem StOk.on {ws : List Int} {x : Str} {k : Nat} {q : Stat} (h : StOk ws x k q) (hk : k < ws.length) (hx : nmF ws (k + 1) = x) (cc : Int) :
    StOk ws x (k + 1) ⟨cc, 1 + q.nc, ((k : Int) + 1) + q.tt, ((ws.length : Int) - k - 1) + q.ct, addC q.cal [(nmF ws k, 1)]⟩ := by
  unfold StOk at *
  rw [T_on hk hx, leftU_app]
  obtain ⟨a, b, c, d, e, f⟩ := h
  obtain ⟨n1, n2⟩ := addC_one q.cal (nmF ws k) d
  refine ⟨?_, ?_, ?_, n1, fun o => ?_, ?_⟩
  · show 1 + q.nc = _; rw [a, List.length_append, List.length_singleton]; omega
  · show ((k : Int) + 1) + q.tt = _; rw [b, List.sum_append]; simp; omega
  · show ((ws.length : Int) - k - 1) + q.ct = _; rw [c, List.sum_append]; unfold leftU; simp; omega
  · show lookK (addC q.cal [(nmF ws k, 1)]) o = _
    rw [n2, mv_on hx]
    by_cases ho : o = nmF ws k
    · subst ho
      rw [if_pos rfl, if_pos rfl, if_neg (by omega)]
      rw [e]
      by_cases hz : mvF ws (nmF ws k) x k = 0
      · rw [if_pos hz, hz]; rfl
      · rw [if_neg hz]; simp
    · have ho' : ¬ nmF ws k = o := fun q => ho q.symm
      rw [if_neg ho, if_neg ho', Nat.add_zero, e]
  · show sumV (addC q.cal [(nmF ws k, 1)]) = 1 + q.nc - _
    rw [addC_one_sum _ _ d, f]; omega
theorem StOk.zero {ws : List Int} {x : Str} {k : Nat} (hk : k ≤ ws.length) (h : ∀ j, j ≤ k → nmF ws j ≠ x) : StOk ws x k ⟨0, 0, 0, 0, []⟩ := by
  unfold StOk
  rw [T_none hk h]
  refine ⟨rfl, rfl, rfl, List.nodup_nil, fun o => by rw [mv_none h]; rfl, ?_⟩
  rw [if_neg (fun e => h 0 (Nat.zero_le _) (by rw [nm_zero, e]))]; rfl
theorem StOk.start (ws : List Int) : StOk ws (Str.ofString "") 0 ⟨1, 1, 0, ws.length, []⟩ := by
  unfold StOk
  rw [T_zero, if_pos rfl]
  refine ⟨rfl, rfl, ?_, List.nodup_nil, fun o => rfl, rfl⟩
  unfold leftU; simp
theorem bookUp_spec {ws : List Int} (h4 : Four ws) : ∀ k, k ≤ ws.length → (bookUp ws.length (ws.map cOf) k).2 = nmF ws k ∧ (keysOf (bookUp ws.length (ws.map cOf) k).1).Nodup ∧
    (∀ x, x ∈ keysOf (bookUp ws.length (ws.map cOf) k).1 ↔ ∃ j, j ≤ k ∧ nmF ws j = x) ∧ ∀ x q, lookK (bookUp ws.length (ws.map cOf) k).1 x = some q → q.cc = 1 ∧ StOk ws x k q
  | 0, _ => by
    refine ⟨(nm_zero ws).symm, List.pairwise_singleton _ _, fun x => ?_, fun x q hq => ?_⟩
    · show x ∈ [Str.ofString ""] ↔ _
      rw [List.mem_singleton]
      exact ⟨fun e => ⟨0, Nat.le_refl _, by rw [nm_zero, e]⟩, fun ⟨j, hj, e⟩ => by rw [← e, Nat.le_zero.mp hj, nm_zero]⟩
    · rw [show (bookUp ws.length (ws.map cOf) 0).1 = [(Str.ofString "", ⟨1, 1, 0, ws.length, []⟩)] from rfl, look_cons] at hq
      by_cases e : Str.ofString "" = x
      · rw [if_pos e] at hq
        cases hq; subst e
        exact ⟨rfl, StOk.start ws⟩
      · rw [if_neg e] at hq; cases hq
  | k + 1, hk => by
    obtain ⟨a, b, c, d⟩ := bookUp_spec h4 k (Nat.le_of_succ_le hk)
    generalize hB : bookUp ws.length (ws.map cOf) k = B at a b c d
    have hx := nm_succ h4 (k := k) hk
    have eB : bookUp ws.length (ws.map cOf) (k + 1) = bookStep ws.length B k ((ws.map cOf).getD k 0) := by rw [← hB]; rfl
    rw [eB]
    unfold bookStep
    rw [a, ← hx]
    generalize hX : nmF ws (k + 1) = X at *
    refine ⟨rfl, nodup_put _ _ _ b, fun x => ?_, fun x q hq => ?_⟩
    · rw [keys_put, c]
      constructor
      · rintro (e | ⟨j, hj, e⟩)
        · exact ⟨k + 1, Nat.le_refl _, by rw [hX, e]⟩
        · exact ⟨j, Nat.le_succ_of_le hj, e⟩
      · rintro ⟨j, hj, e⟩
        rcases Nat.lt_or_ge j (k + 1) with q | q
        · exact .inr ⟨j, Nat.le_of_lt_succ q, e⟩
        · rw [Nat.le_antisymm hj q, hX] at e; exact .inl e.symm
    · rw [look_put] at hq
      by_cases e : x = X
      · subst e
        rw [if_pos rfl] at hq
        cases hl : lookK B.1 x with
        | none =>
          rw [hl] at hq
          cases hq
          refine ⟨rfl, ?_⟩
          have hn := lookK_none.mp hl
          rw [c] at hn
          exact (StOk.zero (k := k) (Nat.le_of_succ_le hk) fun j hj e => hn ⟨j, hj, e⟩).on hk hX 1
        | some st =>
          rw [hl] at hq
          cases hq
          obtain ⟨c1, s1⟩ := d x st hl
          refine ⟨by show 0 + st.cc = 1; rw [c1]; rfl, s1.on hk hX _⟩
      · rw [if_neg e] at hq
        obtain ⟨c1, s1⟩ := d x q hq
        exact ⟨c1, s1.off hk (by rw [hX]; exact fun q => e q.symm)⟩
theorem bookF_up (ws : List Int) : bookF (ws.map cOf) = (bookUp ws.length (ws.map cOf) ws.length).1 := by unfold bookF; rw [List.length_map]
theorem book_keys {ws : List Int} (h4 : Four ws) (x : Str) : x ∈ keysOf (bookF (ws.map cOf)) ↔ ∃ j, j ≤ ws.length ∧ nmF ws j = x := by
  rw [bookF_up]; exact (bookUp_spec h4 _ (Nat.le_refl _)).2.2.1 x
theorem book_nodup {ws : List Int} (h4 : Four ws) : (keysOf (bookF (ws.map cOf))).Nodup := by
  rw [bookF_up]; exact (bookUp_spec h4 _ (Nat.le_refl _)).2.1
theorem book_look {ws : List Int} (h4 : Four ws) {x : Str} {q : Stat} (h : lookK (bookF (ws.map cOf)) x = some q) : q.cc = 1 ∧ StOk ws x ws.length q := by
  rw [bookF_up] at h; exact (bookUp_spec h4 _ (Nat.le_refl _)).2.2.2 x q h
/-- lawS 6: the books as due -/
theorem book_due {ws : List Int} (h4 : Four ws) : TabEq StatEq (bookF (ws.map cOf)) (dueF (headsF ws)) := by
  have hD := due_look (namesF ws) (namesF ws).length
  have eD : dueF (headsF ws) = dueUp (namesF ws) (namesF ws).length := by unfold dueF namesF; rw [List.length_map]
  rw [← eD, List.take_length] at hD
  refine tab_of (book_nodup h4) hD.1 fun x => ?_
  rw [hD.2]
  by_cases hx : x ∈ keysOf (bookF (ws.map cOf))
  · right
    obtain ⟨q, hq⟩ := look_some.mpr hx
    obtain ⟨j, hj, ej⟩ := (book_keys h4 x).mp hx
    have hm : x ∈ namesF ws := List.mem_of_getElem? (ej ▸ names_get hj)
    refine ⟨q, _, hq, if_pos hm, ?_⟩
    obtain ⟨c1, a, b, c, d, e, _⟩ := book_look h4 hq
    unfold dueStat
    rw [names_len, show timesU (namesF ws) x (ws.length + 1) = TF ws x ws.length from rfl]
    refine ⟨c1, a, b, c, ?_⟩
    obtain ⟨t1, t2⟩ := tabU_look (origU (namesF ws) (TF ws x ws.length))
    refine tab_of d t1 fun o => ?_
    rw [e, t2, orig_count (Nat.le_refl _)]
    by_cases hz : mvF ws o x ws.length = 0
    · left; simp [hz]
    · right; simp [hz]
  · left
    refine ⟨lookK_none.mpr hx, if_neg fun hm => hx ?_⟩
    obtain ⟨j, hj⟩ := List.mem_iff_getElem?.mp hm
    have hl : j < (namesF ws).length := (List.getElem?_eq_some_iff.mp hj).1
    rw [names_len] at hl
    rw [names_get (by omega)] at hj
    cases hj
    exact (book_keys h4 _).mpr ⟨j, by omega, rfl⟩
example : True := by w_top off; trivial
/-! a place is come to from ahead once more often than it is gone back from, if it lies on the straight way -/
theorem head_moves (h : List Int) (n : Int) : headStep h n = h ++ [n] ∨ ∃ z, h = headStep h n ++ [z] := by
  rcases List.eq_nil_or_concat h with rfl | ⟨g, x, e⟩
  · exact .inl rfl
  · rw [List.concat_eq_append] at e
    subst e
    rw [headStep_snoc]
    by_cases hz : x + n = 0
    · rw [if_pos hz]; exact .inr ⟨x, rfl⟩
    · rw [if_neg hz]; exact .inl rfl
theorem pre_snoc {p h : List Int} {z : Int} : p <+: h ++ [z] ↔ p = h ++ [z] ∨ p <+: h := List.prefix_concat_iff
theorem pre_not (h : List Int) (z : Int) : ¬ h ++ [z] <+: h := fun q => by have := q.length_le; simp at this; omega
theorem cross {ws : List Int} (h4 : Four ws) {g : List Int} {y : Int} (hg : Four (g ++ [y])) : ∀ k, k ≤ ws.length →
    (mvF ws (placeS g) (placeS (g ++ [y])) k : Int) - (mvF ws (placeS (g ++ [y])) (placeS g) k : Int) = if g ++ [y] <+: headEnd (ws.take k) then 1 else 0
  | 0, _ => by
    rw [List.take_zero, if_neg (by intro q; have := q.length_le; simp [headEnd] at this)]; rfl
  | k + 1, hk => by
    have ih := cross h4 hg k (Nat.le_of_succ_le hk)
    have hn : ws[k]? = some (ws[k]'hk) := List.getElem?_eq_getElem hk
    have hh := nm_four h4 k
    have hh' := nm_four h4 (k + 1)
    have hg0 : Four g := fun n hn => hg n (List.mem_append.mpr (.inl hn))
    have em : ∀ a b : List Int, Four a → Four b → (mvF ws (placeS a) (placeS b) (k + 1) : Int) = (mvF ws (placeS a) (placeS b) k : Int) + if headEnd (ws.take k) = a ∧ headEnd (ws.take (k + 1)) = b then 1 else 0 := by
      intro a b ha hb
      have i1 : nmF ws k = placeS a ↔ headEnd (ws.take k) = a := ⟨fun e => placeS_inj hh ha e, fun e => by unfold nmF; rw [e]⟩
      have i2 : nmF ws (k + 1) = placeS b ↔ headEnd (ws.take (k + 1)) = b := ⟨fun e => placeS_inj hh' hb e, fun e => by unfold nmF; rw [e]⟩
      show ((mvF ws (placeS a) (placeS b) k + (if nmF ws k = placeS a ∧ nmF ws (k + 1) = placeS b then 1 else 0) : Nat) : Int) = _
      simp only [i1, i2]
      split <;> simp
    rw [em _ _ hg0 hg, em _ _ hg hg0]
    have hs := headEnd_take hn
    rcases head_moves (headEnd (ws.take k)) (ws[k]'hk) with e | ⟨z, e⟩
    · rw [e] at hs
      rw [hs]
      generalize headEnd (ws.take k) = h at *
      rw [if_neg (c := h = g ++ [y] ∧ h ++ [ws[k]'hk] = g) (by rintro ⟨q, r⟩; have := congrArg List.length q; have := congrArg List.length r; simp at *; omega)]
      by_cases q : g ++ [y] = h ++ [ws[k]'hk]
      · have q1 : h = g := (List.append_inj' q rfl).1.symm
        have q2 : ¬ g ++ [y] <+: h := by rw [q]; exact pre_not _ _
        rw [if_pos (pre_snoc.mpr (.inl q)), if_pos ⟨q1, q.symm⟩]
        rw [if_neg q2] at ih; omega
      · rw [if_neg (c := h = g ∧ h ++ [ws[k]'hk] = g ++ [y]) (fun r => q r.2.symm)]
        simp only [pre_snoc, q, false_or]
        rw [← ih]; omega
    · rw [← hs] at e
      generalize headEnd (ws.take (k + 1)) = h at *
      rw [e] at ih ⊢
      rw [if_neg (c := h ++ [z] = g ∧ h = g ++ [y]) (by rintro ⟨q, r⟩; have := congrArg List.length q; have := congrArg List.length r; simp at *; omega)]
      by_cases q : g ++ [y] = h ++ [z]
      · have q1 : h = g := (List.append_inj' q rfl).1.symm
        have q2 : ¬ g ++ [y] <+: h := by rw [q]; exact pre_not _ _
        rw [if_neg q2, if_pos ⟨q.symm, q1⟩]
        rw [if_pos (pre_snoc.mpr (.inl q))] at ih; omega
      · rw [if_neg (c := h ++ [z] = g ++ [y] ∧ h = g) (fun r => q r.1.symm)]
        simp only [pre_snoc, q, false_or] at ih
        rw [← ih]; omega
theorem straight_mem {e : List Int} {x : Str} : x ∈ straightF e ↔ ∃ m, m < e.length ∧ placeS (e.take (m + 1)) = x := by
  unfold straightF
  rw [List.mem_map]
  exact ⟨fun ⟨m, hm, e⟩ => ⟨m, List.mem_range.mp hm, e⟩, fun ⟨m, hm, e⟩ => ⟨m, List.mem_range.mpr hm, e⟩⟩
theorem take_four {e : List Int} (h : Four e) (m : Nat) : Four (e.take m) := fun k hk => h k (List.mem_of_mem_take hk)
theorem straight_pre {e g : List Int} {y : Int} (he : Four e) (hg : Four (g ++ [y])) : placeS (g ++ [y]) ∈ straightF e ↔ g ++ [y] <+: e := by
  rw [straight_mem]
  constructor
  · rintro ⟨m, _, q⟩
    rw [← placeS_inj (take_four he _) hg q]; exact List.take_prefix _ _
  · intro q
    have hl := q.length_le
    rw [List.length_append, List.length_singleton] at hl
    have hq := List.prefix_iff_eq_take.mp q
    rw [List.length_append, List.length_singleton] at hq
    exact ⟨g.length, by omega, by rw [← hq]⟩
theorem nil_straight {e : List Int} : Str.ofString "" ∉ straightF e := by
  rw [straight_mem]
  rintro ⟨m, hm, q⟩
  have := congrArg Str.length q
  rw [placeS_len, sNil, mkS_len, List.length_take] at this
  simp at this; omega
theorem marks_ok {ws : List Int} (h4 : Four ws) (hl : ws.length ≤ 19) : MarkOk (bookF (ws.map cOf)) (straightF (headEnd ws)) := by
  intro x q hq
  have hx : x ∈ keysOf (bookF (ws.map cOf)) := look_some.mp ⟨q, hq⟩
  obtain ⟨j, hj, ej⟩ := (book_keys h4 x).mp hx
  obtain ⟨c1, a, b, c, d, e, f⟩ := book_look h4 hq
  have hlen := headEnd_len ws j
  refine ⟨by rw [← ej]; unfold nmF; rw [placeS_len]; omega, ?_⟩
  by_cases h0 : x = Str.ofString ""
  · rw [if_pos h0]
    rw [if_pos h0] at f
    exact ⟨h0 ▸ nil_straight, f⟩
  · rw [if_neg h0]
    rw [if_neg h0] at f
    refine ⟨by have : sumV q.cal = _ := f; unfold sumV at this; omega, ?_⟩
    rcases List.eq_nil_or_concat (headEnd (ws.take j)) with e0 | ⟨g, y, e0⟩
    · exact absurd (by rw [← ej]; unfold nmF; rw [e0, placeS_nil]) h0
    · rw [List.concat_eq_append] at e0
      have ex : x = placeS (g ++ [y]) := by rw [← ej]; unfold nmF; rw [e0]
      have hg : Four (g ++ [y]) := e0 ▸ nm_four h4 j
      have hj1 := cross h4 hg j hj
      rw [e0, if_pos (List.prefix_refl _)] at hj1
      have hle := mv_le (ws := ws) (a := placeS g) (b := placeS (g ++ [y])) hj
      have hpos : mvF ws (placeS g) (placeS (g ++ [y])) ws.length ≠ 0 := by omega
      obtain ⟨i, hi, ei, _⟩ := mv_pos hpos
      obtain ⟨r, hr⟩ := look_some.mpr ((book_keys h4 (placeS g)).mpr ⟨i, by omega, ei⟩)
      obtain ⟨_, _, _, _, _, e', _⟩ := book_look h4 hr
      have hn := cross h4 hg ws.length (Nat.le_refl _)
      rw [List.take_length] at hn
      rw [ex] at e ⊢
      refine ⟨(mvF ws (placeS g) (placeS (g ++ [y])) ws.length : Int), r, ?_, by rw [aheadS_place]; exact hr, ?_⟩
      · rw [aheadS_place, e, if_neg hpos]
      · rw [e']
        simp only [straight_pre (headEnd_four h4) hg]
        rw [← hn]
        by_cases hz : mvF ws (placeS (g ++ [y])) (placeS g) ws.length = 0
        · rw [if_pos hz, hz]; rfl
        · rw [if_neg hz]; rfl
example : True := by w_top off; trivial
/-! Munn: led along a book -/
theorem led_at {ws : List Int} (h4 : Four ws) {ks : List Str} (h0 : Str.ofString "" ∈ ks) (hp : ∀ x ∈ ks, ∃ h, x = placeS h) : ∀ k, k ≤ ws.length →
    ((∀ j, j ≤ k → nmF ws j ∈ ks) → ledK ks ((ws.take k).map cOf) = nmF ws k) ∧ ((∃ j, j ≤ k ∧ nmF ws j ∉ ks) → ledK ks ((ws.take k).map cOf) = failedT)
  | 0, _ => ⟨fun _ => (nm_zero ws).symm, fun ⟨j, hj, q⟩ => absurd (by rw [Nat.le_zero.mp hj, nm_zero]; exact h0) q⟩
  | k + 1, hk => by
    obtain ⟨a, b⟩ := led_at h4 h0 hp k (Nat.le_of_succ_le hk)
    have hg : ws[k]? = some (ws[k]'hk) := List.getElem?_eq_getElem hk
    have hn := h4 _ (List.getElem_mem (l := ws) (n := k) hk)
    have es : ledK ks ((ws.take (k + 1)).map cOf) = stepK ks (ledK ks ((ws.take k).map cOf)) (cOf (ws[k]'hk)) := by
      rw [takeMap_snoc cOf hg]; unfold ledK; rw [List.foldl_append]; rfl
    have en : nmF ws (k + 1) = besideF (nmF ws k) ⟨#[cOf (ws[k]'hk)]⟩ := by
      unfold nmF; rw [headEnd_take hg, beside_place (nm_four h4 k) hn]
    rw [es]
    have hall : (∀ j, j ≤ k → nmF ws j ∈ ks) ∨ ∃ j, j ≤ k ∧ nmF ws j ∉ ks := by
      rcases Classical.em (∃ j, j ≤ k ∧ nmF ws j ∉ ks) with q | q
      · exact .inr q
      · exact .inl fun j hj => Decidable.byContradiction fun r => q ⟨j, hj, r⟩
    constructor
    · intro h
      rw [a fun j hj => h j (Nat.le_succ_of_le hj)]
      unfold stepK
      rw [← en, if_pos (h _ (Nat.le_refl _))]
    · rintro ⟨j, hj, q⟩
      rcases hall with r | r
      · rw [a r]
        unfold stepK
        have : j = k + 1 := by
          rcases Nat.lt_or_ge j (k + 1) with z | z
          · exact absurd (r j (Nat.le_of_lt_succ z)) q
          · omega
        subst this
        rw [← en, if_neg q]
      · rw [b r]
        unfold stepK
        rw [if_neg fun z => ?_]
        obtain ⟨h, e⟩ := hp _ z
        exact failed_on hn h e
theorem lack_nil {b c : List (Str × Stat)} : lackF b c = [] ↔ ∀ x ∈ keysOf b, x ∈ keysOf c := by
  unfold lackF
  rw [List.filter_eq_nil_iff]
  simp
theorem book_place {ws : List Int} (h4 : Four ws) : ∀ x ∈ keysOf (bookF (ws.map cOf)), ∃ h, x = placeS h := fun x hx => by
  obtain ⟨j, _, e⟩ := (book_keys h4 x).mp hx; exact ⟨_, e.symm⟩
theorem book_start {ws : List Int} (h4 : Four ws) : Str.ofString "" ∈ keysOf (bookF (ws.map cOf)) := (book_keys h4 _).mpr ⟨0, Nat.zero_le _, nm_zero ws⟩
/-- a word is led along a book to its own end if the book has all its places -/
theorem led_book {wi wj : List Int} (hi : Four wi) (hj : Four wj) : ledK (keysOf (bookF (wj.map cOf))) (wi.map cOf) = if lackF (bookF (wi.map cOf)) (bookF (wj.map cOf)) = [] then placeS (headEnd wi) else failedT := by
  obtain ⟨a, b⟩ := led_at hi (book_start hj) (book_place hj) wi.length (Nat.le_refl _)
  rw [List.take_length] at a b
  by_cases h : lackF (bookF (wi.map cOf)) (bookF (wj.map cOf)) = []
  · rw [if_pos h, a fun j hjl => lack_nil.mp h _ ((book_keys hi _).mpr ⟨j, hjl, rfl⟩)]
    unfold nmF; rw [List.take_length]
  · rw [if_neg h]
    refine b ?_
    rcases Classical.em (∃ j, j ≤ wi.length ∧ nmF wi j ∉ keysOf (bookF (wj.map cOf))) with q | q
    · exact q
    · refine absurd (lack_nil.mpr fun x hx => ?_) h
      obtain ⟨j, hjl, e⟩ := (book_keys hi x).mp hx
      exact Decidable.byContradiction fun r => q ⟨j, hjl, e ▸ r⟩
theorem told_get (wss : List (List Int)) (ws : List Int) (q : Nat) : (toldF (wss.map fun w => bookF (w.map cOf)) ws)[q]? = (wss[q]?).map fun w => ledK (keysOf (bookF (w.map cOf))) (ws.map cOf) := by
  unfold toldF; rw [List.getElem?_map, List.getElem?_map, Option.map_map]; rfl
theorem munn_le {wss : List (List Int)} (h4 : ∀ ws ∈ wss, Four ws) (hl : wss.length = 4) {wi wj : List Int} (hi : wi ∈ wss) (hj : wj ∈ wss) :
    (∀ q, q < 4 → (toldF (wss.map fun w => bookF (w.map cOf)) wi)[q]? = some failedT ∨ (toldF (wss.map fun w => bookF (w.map cOf)) wi)[q]? = (toldF (wss.map fun w => bookF (w.map cOf)) wj)[q]?) ↔
      (placeS (headEnd wi) = placeS (headEnd wj) ∧ lackF (bookF (wj.map cOf)) (bookF (wi.map cOf)) = []) := by
  constructor
  · intro h
    obtain ⟨q, hq⟩ := List.mem_iff_getElem?.mp hi
    have hq4 : q < 4 := hl ▸ (List.getElem?_eq_some_iff.mp hq).1
    have := h q hq4
    rw [told_get, told_get, hq, Option.map_some, Option.map_some, led_book (h4 _ hi) (h4 _ hi), if_pos (lack_nil.mpr fun _ x => x), led_book (h4 _ hj) (h4 _ hi)] at this
    rcases this with e | e
    · exact absurd (Option.some.inj e).symm (failed_ne _)
    · have e := Option.some.inj e
      by_cases z : lackF (bookF (wj.map cOf)) (bookF (wi.map cOf)) = []
      · rw [if_pos z] at e; exact ⟨e, z⟩
      · rw [if_neg z] at e; exact absurd e.symm (failed_ne _)
  · rintro ⟨e, z⟩ q hq
    have hw : wss[q]? = some (wss[q]'(hl ▸ hq)) := List.getElem?_eq_getElem (hl ▸ hq)
    have hm := List.getElem_mem (l := wss) (n := q) (hl ▸ hq)
    generalize wss[q]'(hl ▸ hq) = wq at hw hm
    rw [told_get, told_get, hw, Option.map_some, Option.map_some, led_book (h4 _ hi) (h4 _ hm), led_book (h4 _ hj) (h4 _ hm)]
    by_cases y : lackF (bookF (wi.map cOf)) (bookF (wq.map cOf)) = []
    · right
      rw [if_pos y, if_pos (lack_nil.mpr fun x hx => lack_nil.mp y x (lack_nil.mp z x hx)), e]
    · left; rw [if_neg y]
theorem mark_eq {wi wj : List Int} (hi : Four wi) (hj : Four wj) : markF wi = markF wj ↔ (∀ x, x ∈ keysOf (bookF (wi.map cOf)) ↔ x ∈ keysOf (bookF (wj.map cOf))) ∧ headEnd wi = headEnd wj := by
  unfold markF
  rw [Prod.mk.injEq, sortC_eq (book_nodup hi) (book_nodup hj)]
  constructor
  · rintro ⟨a, b⟩
    refine ⟨a, ?_⟩
    have sub : ∀ {w : List Int}, Four w → ∀ x ∈ straightF (headEnd w), x ∈ keysOf (bookF (w.map cOf)) := by
      intro w hw x hx
      obtain ⟨m, hm, e⟩ := straight_mem.mp hx
      have hne : (headEnd w).take (m + 1) ≠ [] := fun q => by have := congrArg List.length q; rw [List.length_take, List.length_nil] at this; omega
      rcases List.eq_nil_or_concat ((headEnd w).take (m + 1)) with q | ⟨g, y, q⟩
      · exact absurd q hne
      · rw [List.concat_eq_append] at q
        have hg : Four (g ++ [y]) := q ▸ take_four (headEnd_four hw) _
        have hc := cross hw hg w.length (Nat.le_refl _)
        rw [List.take_length, if_pos (q ▸ List.take_prefix _ _)] at hc
        obtain ⟨i, hi, _, e2⟩ := mv_pos (ws := w) (a := placeS g) (b := placeS (g ++ [y])) (k := w.length) (by omega)
        exact (book_keys hw x).mpr ⟨i + 1, by omega, by rw [e2, ← q, e]⟩
    have hs : ∀ x, x ∈ straightF (headEnd wi) ↔ x ∈ straightF (headEnd wj) := by
      have mem : ∀ {w : List Int}, Four w → ∀ x, x ∈ onwardF (keysOf (bookF (w.map cOf))) (straightF (headEnd w)) ↔ x ∈ straightF (headEnd w) := by
        intro w hw x
        unfold onwardF
        rw [List.mem_filter, sortC_mem]
        simp only [decide_eq_true_eq]
        exact ⟨fun q => q.2, fun q => ⟨sub hw x q, q⟩⟩
      intro x
      rw [← mem hi, b, mem hj]
    have pre : ∀ {e f : List Int}, Four e → Four f → (∀ x, x ∈ straightF e → x ∈ straightF f) → e <+: f := by
      intro e f he hf h
      rcases List.eq_nil_or_concat e with q | ⟨g, y, q⟩
      · rw [q]; exact List.nil_prefix
      · rw [List.concat_eq_append] at q
        subst q
        exact (straight_pre hf he).mp (h _ ((straight_pre he he).mpr (List.prefix_refl _)))
    have p1 := pre (headEnd_four hi) (headEnd_four hj) fun x h => (hs x).mp h
    have p2 := pre (headEnd_four hj) (headEnd_four hi) fun x h => (hs x).mpr h
    exact p1.eq_of_length (Nat.le_antisymm p1.length_le p2.length_le)
  · rintro ⟨a, b⟩
    refine ⟨a, ?_⟩
    unfold onwardF
    rw [b, (sortC_eq (book_nodup hi) (book_nodup hj)).mpr a]
theorem munn_eq {wss : List (List Int)} (h4 : ∀ ws ∈ wss, Four ws) {wi wj : List Int} (hi : wi ∈ wss) (hj : wj ∈ wss) :
    toldF (wss.map fun w => bookF (w.map cOf)) wi = toldF (wss.map fun w => bookF (w.map cOf)) wj ↔ markF wi = markF wj := by
  rw [mark_eq (h4 _ hi) (h4 _ hj)]
  constructor
  · intro h
    have one : ∀ {wa wb : List Int}, wa ∈ wss → wb ∈ wss → toldF (wss.map fun w => bookF (w.map cOf)) wa = toldF (wss.map fun w => bookF (w.map cOf)) wb → lackF (bookF (wb.map cOf)) (bookF (wa.map cOf)) = [] ∧ placeS (headEnd wa) = placeS (headEnd wb) := by
      intro wa wb ha hb h
      obtain ⟨q, hq⟩ := List.mem_iff_getElem?.mp ha
      have := congrArg (fun l => l[q]?) h
      rw [told_get, told_get, hq, Option.map_some, Option.map_some, led_book (h4 _ ha) (h4 _ ha), if_pos (lack_nil.mpr fun _ x => x), led_book (h4 _ hb) (h4 _ ha)] at this
      have e := Option.some.inj this
      by_cases z : lackF (bookF (wb.map cOf)) (bookF (wa.map cOf)) = []
      · rw [if_pos z] at e; exact ⟨z, e⟩
      · rw [if_neg z] at e; exact absurd e.symm (failed_ne _)
    obtain ⟨l1, e1⟩ := one hi hj h
    obtain ⟨l2, _⟩ := one hj hi h.symm
    exact ⟨fun x => ⟨lack_nil.mp l2 x, lack_nil.mp l1 x⟩, placeS_inj (headEnd_four (h4 _ hi)) (headEnd_four (h4 _ hj)) e1⟩
  · rintro ⟨a, e⟩
    unfold toldF
    refine List.map_congr_left fun b hb => ?_
    obtain ⟨wq, hq, rfl⟩ := List.mem_map.mp hb
    rw [led_book (h4 _ hi) (h4 _ hq), led_book (h4 _ hj) (h4 _ hq), e]
    have : lackF (bookF (wi.map cOf)) (bookF (wq.map cOf)) = [] ↔ lackF (bookF (wj.map cOf)) (bookF (wq.map cOf)) = [] := by
      rw [lack_nil, lack_nil]; exact ⟨fun h x hx => h x ((a x).mpr hx), fun h x hx => h x ((a x).mp hx)⟩
    simp only [this]
theorem book_size (ws : List Int) (hl : ws.length ≤ 19) : (bookF (ws.map cOf)).length ≤ 60 := by
  have := (bookUp_size (ws.map cOf).length (ws.map cOf) (ws.map cOf).length).1
  unfold bookF
  rw [List.length_map] at this ⊢
  omega
theorem book_some {ws : List Int} (h4 : Four ws) : bookF (ws.map cOf) ≠ [] := fun e => by
  have := book_start h4; rw [e] at this; cases this
example : True := by w_top off; trivial
theorem stmt_failed {w : World} {mean : ExcName → Option Value} {mg mb : Str → Option Value} {h₀ : Heap} {L fa : Addr} {cd : Value} {m : Str → Option Value} {news Xs : List (Addr × Obj)} {vs : Nat → Option Value} {s : Shared} {Q : Flow → Shared → Prop} {E : Value → Shared → Prop}
    (X : (lay.heap_1 w.params).In h₀) (T : Top V loo mean mg mb h₀) (B : Below callerA h₀ [] h₀) (F : Fr h₀ L s.heap m) (N : News h₀ L s.heap news) (S : LSt L news Xs vs)
    (k : ∀ h' tk' news' t, Fr h₀ L h' m → News h₀ L h' news' → LSt L news' Xs (fun j => if j = 5 then some (.str failedT t) else vs j) → Q .next { s with heap := h', toks := tk' }) :
    wpAny (model PySem.Challenge.rw_zn0008_01.row.prog w) (callerA.deeper (lawE lawScope L fa cd)) (exec (lawS 10) (lawE lawScope L fa cd)) Q E s := by
  refine law_open (st' := PySem.Stmt.Assign _ _ _) (sc' := ⟨_, _, _, _, _⟩) rfl rfl ?_
  refine Classical.byContradiction ?_; intro kG0
  obtain ⟨o5, m5, d5⟩ := S.c5
  refine kG0 ?_
  clear kG0
  revert X; k_fill; intro X
  k_steps
  refine cell_store (c := L + 1 + 1 + 1 + 1 + 1) (o := o5) F N (by with_unfolding_all rfl) m5 d5 rfl (by with_unfolding_all rfl) fun h' o' F₂ N₂ d₂ => ?_
  k_steps
  exact k _ _ _ _ F₂ N₂ (S.put 5 (by decide) rfl d₂)
theorem stmt_cmps {w : World} {mean : ExcName → Option Value} {mg mb : Str → Option Value} {h₀ : Heap} {L fa Wb Wt Dm De : Addr} {cd : Value} {m : Str → Option Value} {news Xs : List (Addr × Obj)} {vs : Nat → Option Value} {s : Shared} {Q : Flow → Shared → Prop} {E : Value → Shared → Prop} {wss : List (List Int)} {tf : Tok} {bs : List (List (Str × Stat))}
    (hw4 : wss.length = 4) (hbs : bs = wss.map fun ws => bookF (ws.map cOf)) (hbz : ∀ ws ∈ wss, (bookF (ws.map cOf)).length ≤ 60)
    (hA : ∀ wi ∈ wss, ∀ wj ∈ wss, ledK (keysOf (bookF (wj.map cOf))) (wi.map cOf) = if lackF (bookF (wi.map cOf)) (bookF (wj.map cOf)) = [] then placeS (headEnd wi) else failedT)
    (hB : ∀ wi ∈ wss, ∀ wj ∈ wss, (∀ q, q < 4 → (toldF bs wi)[q]? = some failedT ∨ (toldF bs wi)[q]? = (toldF bs wj)[q]?) ↔ (placeS (headEnd wi) = placeS (headEnd wj) ∧ lackF (bookF (wj.map cOf)) (bookF (wi.map cOf)) = []))
    (hC : ∀ wi ∈ wss, ∀ wj ∈ wss, toldF bs wi = toldF bs wj ↔ markF wi = markF wj)
    (X : (lay.heap_1 w.params).In h₀) (T : Top V loo mean mg mb h₀) (B : Below callerA h₀ [] h₀) (F : Fr h₀ L s.heap m) (N : News h₀ L s.heap news)
    (S : LSt L news Xs vs) (hv1 : vs 1 = some (.ref Wb)) (hWb : SeqIn "list" (BookIn w) Xs (.ref Wb) bs) (hv2 : vs 2 = some (.ref Wt)) (hWt : SeqIn "list" StrsIn Xs (.ref Wt) (wss.map (toldF bs))) (hv5 : vs 5 = some (.str failedT tf))
    (mm : m (Str.ofString "marks") = some (.ref Dm)) (hP : SeqIn "list" MarkIn Xs (.ref Dm) (wss.map markF)) (me : m (Str.ofString "ends") = some (.ref De)) (hE : StrsIn Xs (.ref De) (wss.map fun ws => placeS (headEnd ws)))
    (k : ∀ h' tk' m' news', Fr h₀ L h' m' → News h₀ L h' news' → Q .next { s with heap := h', toks := tk' }) :
    wpAny (model PySem.Challenge.rw_zn0008_01.row.prog w) (callerA.deeper (lawE lawScope L fa cd)) (exec (lawS 11) (lawE lawScope L fa cd)) Q E s := by
  refine law_open (st' := PySem.Stmt.For _ _ _ _ _) (sc' := ⟨_, _, _, _, _⟩) rfl rfl ?_
  revert X; k_fill; intro X
  k_steps
  rename_i h6 tk6 t6 u6 v6 hR F6 N6 up6
  clear up6
  refine Classical.byContradiction ?_; intro kG0
  obtain ⟨o6', m6', _⟩ := S.c6
  obtain ⟨o7', m7', _⟩ := S.c7
  refine kG0 ?_
  clear kG0
  have hr6 := Heap.lt_size ((by assumption : News h₀ L s.heap news) _ m6').1
  have hr7 := Heap.lt_size ((by assumption : News h₀ L s.heap news) _ m7').1
  refine' for_srcC (n := 4) (c := L + 1 + 1 + 1 + 1 + 1 + 1) (S := ?S) ?hk ?hl ?hc ?hcv (fun i m' l => m' (Str.ofString "marks") = some (.ref Dm) ∧ m' (Str.ofString "ends") = some (.ref De) ∧ ∃ vs', LSt L l Xs vs' ∧ ∀ q, q ≠ 6 → q ≠ 7 → vs' q = vs q) ?h0 ?hJc ?step ?done
  case S => exact src_range rfl (Nat.le_of_ble_eq_true rfl) F6 N6 hR
  case hk => rfl
  case hl => with_unfolding_all rfl
  case hc => with_unfolding_all rfl
  case hcv =>
    intro e
    injection e with e
    exact absurd hr6 (by rw [← e]; exact Nat.lt_irrefl _)
  case h0 => exact ⟨mm, me, vs, S, fun _ _ _ => rfl⟩
  case hJc => exact fun i m' l hJ => by obtain ⟨_, _, _, S', _⟩ := hJ; obtain ⟨o, a, b⟩ := S'.c6; exact ⟨o, _, a, b⟩
  case step =>
    intro i v m₁ news₁ h tk own I o' hi pz1 pz2 hnI pz3 hown hlt hcI ho' Fg Ng
    refine Classical.byContradiction ?_; intro kG0
    obtain ⟨ti, rfl⟩ := pz1
    obtain ⟨n1, n2, vs', S', hvs'⟩ := pz2
    obtain ⟨oI, hoI⟩ := pz3
    rw [Int.zero_add] at ho'
    have S0 := S'.put 6 (by decide) (c := L + 1 + 1 + 1 + 1 + 1 + 1) rfl ho'
    generalize hvv : (fun j => if j = 6 then some (Value.int (i : Int) ti) else vs' j) = vv at S0
    have hv6' : vv 6 = some (.int (i : Int) ti) := by rw [← hvv]; rfl
    have hvo : ∀ j, j ≠ 6 → j ≠ 7 → vv j = vs j := fun j hj h7 => by rw [← hvv]; simp only [if_neg hj]; exact hvs' j hj h7
    have hrI : ∀ p ∈ (L + 1 + 1 + 1 + 1 + 1 + 1, o') :: rmA (L + 1 + 1 + 1 + 1 + 1 + 1) news₁, p.1 ≠ I := fun p hp => (List.mem_cons.mp hp).elim (fun e => e ▸ hcI) fun e => hnI p (mem_rm.mp e).1
    generalize (L + 1 + 1 + 1 + 1 + 1 + 1, o') :: rmA (L + 1 + 1 + 1 + 1 + 1 + 1) news₁ = R0 at *
    have S1 := S0.grow (news' := own ++ R0) fun p hp => List.mem_append.mpr (.inr hp)
    have hown7 : ∀ p ∈ own, p.1 ≠ L + 1 + 1 + 1 + 1 + 1 + 1 + 1 := fun p hp => by
      rcases (hown p hp).1 with e | e
      · rw [e]; exact Nat.ne_of_gt (hlt _ m7')
      · injection e with e; rw [← e]; exact Nat.ne_of_gt hr7
    have hLI := S.above hlt
    have hr9 : L + 1 + 1 + 1 + 1 + 1 + 1 + 1 < h.objs.size := by
      obtain ⟨o9, m9, _⟩ := S1.c7
      exact Heap.lt_size (Ng _ m9).1
    have hXI : ∀ p ∈ Xs, p.1 ≠ I := fun p hp => Nat.ne_of_lt (hlt p (S.hX p hp).1)
    obtain ⟨wi, hwi⟩ : ∃ ws, wss[i]? = some ws := ⟨wss[i]'(hw4 ▸ hi), List.getElem?_eq_getElem _⟩
    refine kG0 ?_
    clear kG0
    have hwim := List.mem_of_getElem? hwi
    have hbi : bs[i]? = some (bookF (wi.map cOf)) := by rw [hbs, List.getElem?_map, hwi]; rfl
    have hbl : bs.length = 4 := by rw [hbs, List.length_map, hw4]
    have htl : (wss.map (toldF bs)).length = 4 := by rw [List.length_map, hw4]
    have hti : (wss.map (toldF bs))[i]? = some (toldF bs wi) := by rw [List.getElem?_map, hwi]; rfl
    have hei : (wss.map fun ws => placeS (headEnd ws))[i]? = some (placeS (headEnd wi)) := by rw [List.getElem?_map, hwi]; rfl
    have hpi : (wss.map markF)[i]? = some (markF wi) := by rw [List.getElem?_map, hwi]; rfl
    have htlen : ∀ ws, (toldF bs ws).length = 4 := fun ws => by unfold toldF; rw [List.length_map, hbl]
    revert X; k_fill; intro X
    k_steps
    rename_i h8 tk8 t8 u8 v8 hR8 F8 N8 up8
    clear up8
    refine' for_srcC (n := 4) (c := L + 1 + 1 + 1 + 1 + 1 + 1 + 1) (S := ?S2) ?hk2 ?hl2 ?hc2 ?hcv2 (fun j m' l => m' (Str.ofString "marks") = some (.ref Dm) ∧ m' (Str.ofString "ends") = some (.ref De) ∧ (∀ p ∈ own, p ∈ l) ∧ ∃ vs', LSt L l Xs vs' ∧ ∀ q, q ≠ 7 → vs' q = vv q) ?h02 ?hJc2 ?step2 ?done2
    case S2 => exact src_range rfl (Nat.le_of_ble_eq_true rfl) F8 N8 hR8
    case hk2 => rfl
    case hl2 => with_unfolding_all rfl
    case hc2 => with_unfolding_all rfl
    case hcv2 =>
      intro e
      injection e with e
      exact absurd hr9 (by rw [← e]; exact Nat.lt_irrefl _)
    case h02 => exact ⟨n1, n2, fun p hp => List.mem_append.mpr (.inl hp), vv, S1, fun _ _ => rfl⟩
    case hJc2 => exact fun i m' l hJ => by obtain ⟨_, _, _, _, S', _⟩ := hJ; obtain ⟨o, a, b⟩ := S'.c7; exact ⟨o, _, a, b⟩
    case step2 =>
      intro j v2 m₂ news₂ h2 tk2 own2 I2 o2 hj pz4 pz5 hnI2 pz6 hown2 hlt2 hcI2 ho2 Fg2 Ng2
      refine Classical.byContradiction ?_; intro kG0
      obtain ⟨tj, rfl⟩ := pz4
      obtain ⟨n1', n2', hsub, vs'', S'', hvs''⟩ := pz5
      obtain ⟨oI2, hoI2⟩ := pz6
      rw [Int.zero_add] at ho2
      have S2 := S''.put 7 (by decide) (c := L + 1 + 1 + 1 + 1 + 1 + 1 + 1) rfl ho2
      generalize hvz : (fun q => if q = 7 then some (Value.int (j : Int) tj) else vs'' q) = vz at S2
      have hz7 : vz 7 = some (.int (j : Int) tj) := by rw [← hvz]; rfl
      have hz6 : vz 6 = some (.int (i : Int) ti) := by rw [← hvz]; exact (hvs'' 6 (by decide)).trans hv6'
      have hzv : ∀ q, q ≠ 7 → vz q = vv q := fun q h7 => by rw [← hvz]; simp only [if_neg h7]; exact hvs'' q h7
      have hzo : ∀ q, q ≠ 6 → q ≠ 7 → vz q = vs q := fun q h6 h7 => (hzv q h7).trans (hvo q h6 h7)
      have hrI2 : ∀ p ∈ (L + 1 + 1 + 1 + 1 + 1 + 1 + 1, o2) :: rmA (L + 1 + 1 + 1 + 1 + 1 + 1 + 1) news₂, p.1 ≠ I2 := fun p hp => (List.mem_cons.mp hp).elim (fun e => e ▸ hcI2) fun e => hnI2 p (mem_rm.mp e).1
      have hsub2 : ∀ p ∈ own, p ∈ (L + 1 + 1 + 1 + 1 + 1 + 1 + 1, o2) :: rmA (L + 1 + 1 + 1 + 1 + 1 + 1 + 1) news₂ := fun p hp => mem_put (hsub p hp) (hown7 p hp)
      generalize (L + 1 + 1 + 1 + 1 + 1 + 1 + 1, o2) :: rmA (L + 1 + 1 + 1 + 1 + 1 + 1 + 1) news₂ = R2 at *
      have S3 := S2.grow (news' := own2 ++ R2) fun p hp => List.mem_append.mpr (.inr hp)
      obtain ⟨wj, hwj⟩ : ∃ ws, wss[j]? = some ws := ⟨wss[j]'(hw4 ▸ hj), List.getElem?_eq_getElem _⟩
      refine kG0 ?_
      clear kG0
      have hwjm := List.mem_of_getElem? hwj
      have hbj : bs[j]? = some (bookF (wj.map cOf)) := by rw [hbs, List.getElem?_map, hwj]; rfl
      have htj : (wss.map (toldF bs))[j]? = some (toldF bs wj) := by rw [List.getElem?_map, hwj]; rfl
      have hej : (wss.map fun ws => placeS (headEnd ws))[j]? = some (placeS (headEnd wj)) := by rw [List.getElem?_map, hwj]; rfl
      have hpj : (wss.map markF)[j]? = some (markF wj) := by rw [List.getElem?_map, hwj]; rfl
      have htij : (toldF bs wi)[j]? = some (ledK (keysOf (bookF (wj.map cOf))) (wi.map cOf)) := by unfold toldF; rw [List.getElem?_map, hbj]; rfl
      have z1 : vz 1 = some (.ref Wb) := (hzo 1 (by decide) (by decide)).trans hv1
      have z2 : vz 2 = some (.ref Wt) := (hzo 2 (by decide) (by decide)).trans hv2
      have z5 : vz 5 = some (.str failedT tf) := (hzo 5 (by decide) (by decide)).trans hv5
      refine wpAny_execs_cons (show wpAny _ _ (exec (cmpS 0) (lawE lawScope L fa cd)) _ _ _ from stmt_lack (bs := bs) (i := i) (j := j) (by omega) hbi hbj (hbz _ hwim) X T B Fg2 Ng2 S3 z1 hWb hz6 hz7 fun h3 tk3 Dl ysl kl F3 N3 l3 hysl => ?_)
      have S4 := S3.grow (news' := (Dl, ({ cls := .type "list", data := .seq (List.toArray ysl) kl } : Obj)) :: (own2 ++ R2)) fun p hp => .tail _ hp
      refine wpAny_execs_cons (show wpAny _ _ (exec (cmpS 1) (lawE lawScope L fa cd)) _ _ _ from stmt_chk1 (De := De) (Dl := Dl) (ysl := ysl) (kl := kl) (tss := wss.map (toldF bs)) (es := wss.map fun ws => placeS (headEnd ws)) (i := i) (j := j) ⟨by omega, by rw [List.length_map]; omega⟩ hti htij (htlen wi) hei X T B F3 N3 S4 z2 hWt z5 hz6 hz7 n2' hE rfl List.mem_cons_self ?hc1 fun h4 tk4 news4 F4 N4 g4 => ?_)
      case hc1 =>
        have hyl := hysl.length
        rw [hA wi hwim wj hwjm]
        by_cases q : lackF (bookF (wi.map cOf)) (bookF (wj.map cOf)) = []
        · rw [if_pos q]
          rw [q] at hyl
          exact .inl ⟨List.eq_nil_of_length_eq_zero hyl, rfl⟩
        · rw [if_neg q]
          exact .inr ⟨fun e => q (by rw [e] at hyl; exact List.eq_nil_of_length_eq_zero hyl.symm), rfl⟩
      have S5 := S4.grow (news' := news4) g4
      refine wpAny_execs_cons (show wpAny _ _ (exec (cmpS 2) (lawE lawScope L fa cd)) _ _ _ from stmt_astray (tss := wss.map (toldF bs)) (i := i) (j := j) (by omega) hti htj ⟨htlen wi, htlen wj⟩ X T B F4 N4 S5 z2 hWt z5 hz6 hz7 fun h5 tk5 Da ysa ka F5 N5 l5 hysa => ?_)
      have S6 := S5.grow (news' := (Da, ({ cls := .type "list", data := .seq (List.toArray ysa) ka } : Obj)) :: news4) fun p hp => .tail _ hp
      refine wpAny_execs_cons (show wpAny _ _ (exec (cmpS 3) (lawE lawScope L fa cd)) _ _ _ from stmt_beyond (bs := bs) (i := i) (j := j) (by omega) hbj hbi (hbz _ hwjm) X T B F5 N5 S6 z1 hWb hz6 hz7 fun h6 tk6 Db ysb kb F6 N6 l6 hysb => ?_)
      have S7 := S6.grow (news' := (Db, ({ cls := .type "list", data := .seq (List.toArray ysb) kb } : Obj)) :: (Da, ({ cls := .type "list", data := .seq (List.toArray ysa) ka } : Obj)) :: news4) fun p hp => .tail _ hp
      refine wpAny_execs_cons (show wpAny _ _ (exec (cmpS 4) (lawE lawScope L fa cd)) _ _ _ from stmt_chk4 (De := De) (Da := Da) (Db := Db) (ysa := ysa) (ysb := ysb) (ka := ka) (kb := kb) (es := wss.map fun ws => placeS (headEnd ws)) (i := i) (j := j) (by rw [List.length_map]; omega) hei hej X T B F6 N6 S7 hz6 hz7 n2' hE rfl (.tail _ List.mem_cons_self) rfl List.mem_cons_self ?hc4 fun h7 tk7 news7 F7 N7 g7 => ?_)
      case hc4 =>
        have hyl := hysb.length
        rw [hysa, hB wi hwim wj hwjm]
        exact and_congr Iff.rfl ⟨fun e => List.eq_nil_of_length_eq_zero (by rw [hyl, e]; rfl), fun e => List.eq_nil_of_length_eq_zero (by rw [← hyl, e]; rfl)⟩
      have S8 := S7.grow (news' := news7) g7
      refine wpAny_execs_cons (show wpAny _ _ (exec (cmpS 5) (lawE lawScope L fa cd)) _ _ _ from stmt_chk5 (Dm := Dm) (tss := wss.map (toldF bs)) (ps := wss.map markF) (i := i) (j := j) ⟨by omega, by rw [List.length_map]; omega⟩ hti htj hpi hpj X T B F7 N7 S8 z2 hWt hz6 hz7 n1' hP (hC wi hwim wj hwjm) fun tk9 => ?_)
      refine wpAny_execs_nil ?_
      have hin : ∀ p ∈ own2 ++ R2, p ∈ news7 := fun p hp => g7 p (.tail _ (.tail _ (g4 p (.tail _ hp))))
      exact .mk F7 N7 (fun p hp => hin p (List.mem_append.mpr (.inl hp))) (news' := R2) (fun p hp => hin p (List.mem_append.mpr (.inr hp))) hrI2 ⟨n1', n2', hsub2, vz, S2, hzv⟩
    case done2 =>
      intro h9 tk9 m' l Fg9 Ng9 pz7
      refine Classical.byContradiction ?_; intro kG0
      obtain ⟨n1', n2', hsub, vs'', S'', hvs''⟩ := pz7
      refine kG0 ?_
      clear kG0
      change wpAny _ _ _ _ _ _
      refine wpAny_execs_nil ?_
      exact .mk Fg9 Ng9 hsub (news' := rmA I l) (fun p hp => (mem_rm.mp hp).1) (fun p hp => (mem_rm.mp hp).2) ⟨n1', n2', vs'', S''.growBut ⟨hLI, hXI⟩ (fun p hp q => mem_rm.mpr ⟨hp, q⟩), fun q h6 h7 => (hvs'' q h7).trans (hvo q h6 h7)⟩
  case done =>
    intro h tk m' l Fg Ng pz8
    refine Classical.byContradiction ?_; intro kG0
    obtain ⟨n1, n2, vs', S', hvs'⟩ := pz8
    refine kG0 ?_
    clear kG0
    exact k h tk m' l Fg Ng
example : True := by w_top off; trivial
section
variable {w : World} {A : Around} {E : Value → Shared → Prop} {s : Shared} {h₀ : Heap} {L l : Addr} {m : Str → Option Value} {news : List (Addr × Obj)}
theorem ints_mem {vs : List Value} {ns : List Int} (h : IntsAre vs ns) : ∀ v ∈ vs, ∃ i t, v = Value.int i t := by
  induction h with
  | nil => exact List.forall_mem_nil _
  | cons n t _ ih => exact fun v hv => (List.mem_cons.mp hv).elim (fun e => ⟨n, t, e⟩) (ih v)
theorem ints_of : ∀ {vs : List Value}, (∀ v ∈ vs, ∃ i t, v = Value.int i t) → ∃ ms, AllV IsI vs ms
  | [], _ => ⟨[], .nil⟩
  | v :: vs, h => by
    refine Classical.byContradiction ?_; intro kG0
    obtain ⟨i, t, rfl⟩ := h v List.mem_cons_self
    obtain ⟨ms, hm⟩ := ints_of fun u hu => h u (.tail _ hu)
    refine kG0 ?_
    clear kG0
    exact ⟨i :: ms, .cons ⟨t, rfl⟩ hm⟩
theorem pick_ints {vs : List Value} {ns : List Int} (h : IntsAre vs ns) (lo hi st : Option Int) : ∃ ms, AllV IsI (slicePick vs.toArray lo hi st).toList ms := by
  refine ints_of fun v hv => ints_mem h v ?_
  unfold slicePick at hv
  refine Classical.byContradiction ?_; intro kG0
  obtain ⟨i, _, e⟩ := List.mem_filterMap.mp hv
  refine kG0 ?_
  clear kG0
  have := Array.mem_of_getElem? e
  simpa using this
theorem sum_pick {A : Around} {items : List Value} {ns : List Int} {lo hi st : Option Int} {k : Nat} {Q : Value → Shared → Prop} (hh : A.handled = none) (F : Fr h₀ L s.heap m) (N : News h₀ L s.heap news) (hI : IntsAre items ns) (hm : (l, ({ cls := .type "list", data := .seq (slicePick items.toArray lo hi st) k } : Obj)) ∈ news)
    (h : ∀ h' tk t' i, Fr h₀ L h' m → News h₀ L h' news → Q (.int i t') { s with heap := h', toks := tk }) :
    wpAny (model PySem.Challenge.rw_zn0008_01.row.prog w) A (call (.builtin "sum") [.ref l]) Q E s := by
  refine Classical.byContradiction ?_; intro kG0
  obtain ⟨ms, hms⟩ := pick_ints hI lo hi st
  refine kG0 ?_
  clear kG0
  exact sum_L (vs := (slicePick items.toArray lo hi st).toList) hh F N hm hms fun h' tk t' F' N' => h h' tk t' _ F' N'
theorem word_use {code : Int} {sz : Nat} {t1 t2 : Tok} {sv : Int} (hc : 0 ≤ code ∧ code < 125) (hs : sz ≤ 3) (hsv : sv = (sz : Int))
    {mean : ExcName → Option Value} {mg mb : Str → Option Value} {A₀ A : Around} {env : Env} {outer : List Env} {base h₀ : Heap} {L : Addr} {m : Str → Option Value} {news : List (Addr × Obj)} {s : Shared} {Q E : Value → Shared → Prop}
    (a1 : A.handled = none) (a2 : A.depth ≤ 330) (a3 : A.units ≤ 150) (a4 : A.frames = some (env :: outer)) (a5 : env.frame = some L) (a6 : env.scope.kind = .function)
    (B : Below A₀ base outer h₀) (F : Fr h₀ L s.heap m) (X : (lay.heap_1 w.params).In h₀) (N : News h₀ L s.heap news) (T : Top V loo mean mg mb h₀)
    (k : ∀ ws t h' tk', Fr h₀ L h' m → News h₀ L h' news → ws.length ≤ sz → Four ws → Q (.str (wordS ws) t) { s with heap := h', toks := tk' }) :
    wpAny (model PySem.Challenge.rw_zn0008_01.row.prog w) A (call (.ref 135) [.int code t1, .int sv t2]) Q E s :=
  (word_tell w code sz hc hs).use a1 a2 a3 a4 a5 a6 B F X N T ⟨t1, t2, by rw [hsv]⟩ fun r tl h' tk' F' N' _ ⟨ws, hl, h4, t, e⟩ => e ▸ k ws t h' tk' F' (newsOf N' fun p hp => List.mem_append.mpr (.inr hp)) hl h4
theorem back_use {ws : List Int} {t1 : Tok} (h1 : ws.length ≤ 20 ∧ Four ws)
    {mean : ExcName → Option Value} {mg mb : Str → Option Value} {A₀ A : Around} {env : Env} {outer : List Env} {base h₀ : Heap} {L : Addr} {m : Str → Option Value} {news : List (Addr × Obj)} {s : Shared} {Q E : Value → Shared → Prop}
    (a1 : A.handled = none) (a2 : A.depth ≤ 330) (a3 : A.units ≤ 150) (a4 : A.frames = some (env :: outer)) (a5 : env.frame = some L) (a6 : env.scope.kind = .function)
    (B : Below A₀ base outer h₀) (F : Fr h₀ L s.heap m) (X : (lay.heap_1 w.params).In h₀) (N : News h₀ L s.heap news) (T : Top V loo mean mg mb h₀)
    (k : ∀ t h' tk', Fr h₀ L h' m → News h₀ L h' news → Q (.str (wordS (backF ws)) t) { s with heap := h', toks := tk' }) :
    wpAny (model PySem.Challenge.rw_zn0008_01.row.prog w) A (call (.ref 142) [.str (wordS ws) t1]) Q E s :=
  (back_tell w ws h1.1 h1.2).use a1 a2 a3 a4 a5 a6 B F X N T ⟨t1, rfl⟩ fun r tl h' tk' F' N' _ ⟨t, e⟩ => e ▸ k t h' tk' F' (newsOf N' fun p hp => List.mem_append.mpr (.inr hp))
end
theorem fmod_in (a : Int) (n : Int) (hn : 0 < n) (hn' : n ≤ 125) : 0 ≤ Int.fmod a n ∧ Int.fmod a n < 125 := by
  have h1 := Int.fmod_nonneg_of_pos a hn
  have h2 := Int.fmod_lt_of_pos a hn
  omega
example : True := by
  k_with "call builtin:sum" => (k_here; (with_reducible show wpAny _ _ (call (Value.builtin "sum") [Value.ref _]) _ _ _); k_dflt (refine' sum_pick ?hh ?F ?N ?hi ?hm ?_; (case hh => exact rfl); (case F => k_asm); (case N => k_asm); (case hi => assumption); (case hm => (k_extra "zz mem")); k_whole); intro _ _ _ _ _ _; (try dsimp only); (try k_fold))
  trivial
example : True := by
  k_with "call ref" => (k_here; (with_reducible show wpAny _ _ (call (Value.ref 142) _) _ _ _); k_dflt (refine' back_use ?h1 ?a1 ?a2 ?a3 ?a4 ?a5 ?a6 ?kB ?kF ?kX ?kN ?kT ?_; (case a1 => exact rfl); (case a2 => exact Nat.le_of_ble_eq_true rfl); (case a3 => exact Nat.le_of_ble_eq_true rfl); (case a4 => exact rfl); (case a5 => exact rfl); (case a6 => exact rfl); (case kB => k_asm); (case kF => k_asm); (case kX => k_asm); (case kN => k_asm); (case kT => k_asm); (case h1 => assumption); k_whole); intro _ _ _ _ _; (try dsimp only); (try k_fold))
  trivial
example : True := by
  k_with "call ref" => (k_here; (with_reducible show wpAny _ _ (call (Value.ref 135) _) _ _ _); k_dflt (refine' word_use (sz := 3) ?hc ?hs ?hsv ?a1 ?a2 ?a3 ?a4 ?a5 ?a6 ?kB ?kF ?kX ?kN ?kT ?_; (case hsv => rfl); (case hs => exact Nat.le_of_ble_eq_true rfl); (case hc => exact fmod_in _ _ (by decide) (by decide)); (case a1 => exact rfl); (case a2 => exact Nat.le_of_ble_eq_true rfl); (case a3 => exact Nat.le_of_ble_eq_true rfl); (case a4 => exact rfl); (case a5 => exact rfl); (case a6 => exact rfl); (case kB => k_asm); (case kF => k_asm); (case kX => k_asm); (case kN => k_asm); (case kT => k_asm); k_whole); intro _ _ _ _ _ _ _ _; (try dsimp only); (try k_fold))
  trivial
example : True := by
  k_with "call ref" => (k_here; (with_reducible show wpAny _ _ (call (Value.ref 135) _) _ _ _); k_dflt (refine' word_use (sz := 2) ?hc ?hs ?hsv ?a1 ?a2 ?a3 ?a4 ?a5 ?a6 ?kB ?kF ?kX ?kN ?kT ?_; (case hsv => rfl); (case hs => exact Nat.le_of_ble_eq_true rfl); (case hc => exact fmod_in _ _ (by decide) (by decide)); (case a1 => exact rfl); (case a2 => exact Nat.le_of_ble_eq_true rfl); (case a3 => exact Nat.le_of_ble_eq_true rfl); (case a4 => exact rfl); (case a5 => exact rfl); (case a6 => exact rfl); (case kB => k_asm); (case kF => k_asm); (case kX => k_asm); (case kN => k_asm); (case kT => k_asm); k_whole); intro _ _ _ _ _ _ _ _; (try dsimp only); (try k_fold))
  trivial
theorem stmt_u {w : World} {mean : ExcName → Option Value} {mg mb : Str → Option Value} {h₀ : Heap} {L fa l : Addr} {cd : Value} {m : Str → Option Value} {news Xs : List (Addr × Obj)} {vs : Nat → Option Value} {s : Shared} {Q : Flow → Shared → Prop} {E : Value → Shared → Prop} {items : List Value} {ns : List Int}
    (hL : h₀.IsList l items.toArray) (hI : IntsAre items ns) (hz : items.length ≤ 1000) (X : (lay.heap_1 w.params).In h₀) (T : Top V loo mean mg mb h₀) (B : Below callerA h₀ [] h₀) (F : Fr h₀ L s.heap m) (N : News h₀ L s.heap news) (S : LSt L news Xs vs)
    (hm : m (Str.ofString "script") = some (.ref l))
    (k : ∀ h' tk' ws t news' m', ws.length ≤ 3 → Four ws → Fr h₀ L h' m' → News h₀ L h' news' → LSt L news' Xs vs → m' (Str.ofString "script") = some (.ref l) → m' (Str.ofString "u") = some (.str (wordS ws) t) → Q .next { s with heap := h', toks := tk' }) :
    wpAny (model PySem.Challenge.rw_zn0008_01.row.prog w) (callerA.deeper (lawE lawScope L fa cd)) (exec (lawS 0) (lawE lawScope L fa cd)) Q E s := by
  refine law_open (st' := PySem.Stmt.Assign _ _ _) (sc' := ⟨_, _, _, _, _⟩) rfl rfl ?_
  revert X; k_fill; intro X
  have hml := map_put hm
  rw [hml] at F
  k_steps
  exact k _ _ _ _ _ _ (by assumption) (by assumption) (by assumption) (by assumption) (S.grow fun p hp => .tail _ hp) rfl rfl
theorem stmt_v {w : World} {mean : ExcName → Option Value} {mg mb : Str → Option Value} {h₀ : Heap} {L fa l : Addr} {cd : Value} {m : Str → Option Value} {news Xs : List (Addr × Obj)} {vs : Nat → Option Value} {s : Shared} {Q : Flow → Shared → Prop} {E : Value → Shared → Prop} {items : List Value} {ns : List Int} {xu : Str} {tu : Tok}
    (hL : h₀.IsList l items.toArray) (hI : IntsAre items ns) (hz : items.length ≤ 1000) (X : (lay.heap_1 w.params).In h₀) (T : Top V loo mean mg mb h₀) (B : Below callerA h₀ [] h₀) (F : Fr h₀ L s.heap m) (N : News h₀ L s.heap news) (S : LSt L news Xs vs)
    (hm : m (Str.ofString "script") = some (.ref l)) (hu : m (Str.ofString "u") = some (.str xu tu))
    (k : ∀ h' tk' ws t news' m', ws.length ≤ 2 → Four ws → Fr h₀ L h' m' → News h₀ L h' news' → LSt L news' Xs vs → m' (Str.ofString "u") = some (.str xu tu) → m' (Str.ofString "v") = some (.str (wordS ws) t) → Q .next { s with heap := h', toks := tk' }) :
    wpAny (model PySem.Challenge.rw_zn0008_01.row.prog w) (callerA.deeper (lawE lawScope L fa cd)) (exec (lawS 1) (lawE lawScope L fa cd)) Q E s := by
  refine law_open (st' := PySem.Stmt.Assign _ _ _) (sc' := ⟨_, _, _, _, _⟩) rfl rfl ?_
  revert X; k_fill; intro X
  have hml := map_put hm
  rw [hml] at F
  k_steps
  refine k _ _ _ _ _ _ (by assumption) (by assumption) (by assumption) (by assumption) (S.grow fun p hp => .tail _ hp) ?_ rfl
  exact hu
theorem wordS_app (a b : List Int) : wordS a ++ wordS b = wordS (a ++ b) := by unfold wordS; rw [mkS_app, List.map_append]
theorem backF_len (a : List Int) : (backF a).length = a.length := by unfold backF; rw [List.length_map, List.length_reverse]
theorem backF_four {a : List Int} (h : Four a) : Four (backF a) := by
  intro n hn
  unfold backF at hn
  refine Classical.byContradiction ?_; intro kG0
  obtain ⟨k, hk, rfl⟩ := List.mem_map.mp hn
  refine kG0 ?_
  clear kG0
  rcases h k (List.mem_reverse.mp hk) with rfl | rfl | rfl | rfl
  · exact .inr (.inl rfl)
  · exact .inl rfl
  · exact .inr (.inr (.inr rfl))
  · exact .inr (.inr (.inl rfl))
theorem Four.app {a b : List Int} (ha : Four a) (hb : Four b) : Four (a ++ b) := fun k hk => (List.mem_append.mp hk).elim (ha k) (hb k)
noncomputable def wordsF (u v : List Int) : List (List Int) := [u, u ++ v, u ++ backF u ++ u ++ v, v ++ backF v ++ u]
theorem words_ok {u v : List Int} (hu : u.length ≤ 3 ∧ Four u) (hv : v.length ≤ 2 ∧ Four v) : (wordsF u v).length = 4 ∧ ∀ ws ∈ wordsF u v, ws.length ≤ 19 ∧ Four ws := by
  refine ⟨rfl, fun ws h => ?_⟩
  unfold wordsF at h
  simp only [List.mem_cons, List.not_mem_nil, or_false] at h
  rcases h with rfl | rfl | rfl | rfl
  · exact ⟨by omega, hu.2⟩
  · exact ⟨by rw [List.length_append]; omega, hu.2.app hv.2⟩
  · exact ⟨by simp only [List.length_append, backF_len]; omega, ((hu.2.app (backF_four hu.2)).app hu.2).app hv.2⟩
  · exact ⟨by simp only [List.length_append, backF_len]; omega, (hv.2.app (backF_four hv.2)).app hu.2⟩
theorem words_done {h₀ h : Heap} {L W : Addr} {news Xs : List (Addr × Obj)} {vs : Nat → Option Value} {a b c d : Value} {k : Nat} {ss : List Str} (S : LSt L news Xs vs) (l1 : ∀ p ∈ news, p.1 < W) (_ : News h₀ L h ((W, listOf #[a, b, c, d] k) :: news))
    (hs : AllV IsS [a, b, c, d] ss) : ∃ Xs', LSt L ((W, listOf #[a, b, c, d] k) :: news) Xs' vs ∧ StrsIn Xs' (.ref W) ss :=
  ⟨[(W, listOf #[a, b, c, d] k)], (S.grow fun p hp => .tail _ hp).withX fun p hp => by rw [List.mem_singleton.mp hp]; exact ⟨List.mem_cons_self, S.above l1⟩, W, k, [a, b, c, d], rfl, List.mem_cons_self, hs⟩
theorem stmt_words {w : World} {mean : ExcName → Option Value} {mg mb : Str → Option Value} {h₀ : Heap} {L fa : Addr} {cd : Value} {m : Str → Option Value} {news Xs : List (Addr × Obj)} {vs : Nat → Option Value} {s : Shared} {Q : Flow → Shared → Prop} {E : Value → Shared → Prop} {u v : List Int} {tu tv : Tok}
    (hu4 : u.length ≤ 20 ∧ Four u) (hv4 : v.length ≤ 20 ∧ Four v) (hul : u.length ≤ 3) (hvl : v.length ≤ 2) (X : (lay.heap_1 w.params).In h₀) (T : Top V loo mean mg mb h₀) (B : Below callerA h₀ [] h₀) (F : Fr h₀ L s.heap m) (N : News h₀ L s.heap news) (S : LSt L news Xs vs)
    (hu : m (Str.ofString "u") = some (.str (wordS u) tu)) (hv : m (Str.ofString "v") = some (.str (wordS v) tv))
    (k : ∀ h' tk' W news' Xs' m', Fr h₀ L h' m' → News h₀ L h' news' → LSt L news' Xs' vs → m' (Str.ofString "words") = some (.ref W) → StrsIn Xs' (.ref W) ((wordsF u v).map wordS) → Q .next { s with heap := h', toks := tk' }) :
    wpAny (model PySem.Challenge.rw_zn0008_01.row.prog w) (callerA.deeper (lawE lawScope L fa cd)) (exec (lawS 2) (lawE lawScope L fa cd)) Q E s := by
  refine law_open (st' := PySem.Stmt.Assign _ _ _) (sc' := ⟨_, _, _, _, _⟩) rfl rfl ?_
  have hul' : (wordS u).length ≤ 3 := by rw [wordS_len]; exact hul
  have hvl' : (wordS v).length ≤ 2 := by rw [wordS_len]; exact hvl
  have hub' : (wordS (backF u)).length ≤ 3 := by rw [wordS_len, backF_len]; exact hul
  have hvb' : (wordS (backF v)).length ≤ 2 := by rw [wordS_len, backF_len]; exact hvl
  revert X; k_fill; intro X
  have hml := map_put hu
  rw [hml] at F
  have hmv := map_put hv
  rw [hmv] at F
  k_steps
  rename_i l1 h9 FW NW
  refine Classical.byContradiction ?_; intro kG0
  obtain ⟨Xs', SW, hW⟩ := words_done (ss := (wordsF u v).map wordS) S l1 NW (.cons ⟨_, rfl⟩ (.cons ⟨_, congrArg (fun x => Value.str x _) (wordS_app _ _)⟩ (.cons ⟨_, congrArg (fun x => Value.str x _) (by simp only [wordS_app])⟩ (.cons ⟨_, congrArg (fun x => Value.str x _) (by simp only [wordS_app])⟩ .nil))))
  refine kG0 ?_
  clear kG0
  exact k _ _ _ _ _ _ FW NW SW rfl hW
theorem stmt_marks0 {w : World} {mean : ExcName → Option Value} {mg mb : Str → Option Value} {h₀ : Heap} {L fa De : Addr} {cd : Value} {m : Str → Option Value} {news : List (Addr × Obj)} {s : Shared} {Q : Flow → Shared → Prop} {E : Value → Shared → Prop}
    (X : (lay.heap_1 w.params).In h₀) (T : Top V loo mean mg mb h₀) (B : Below callerA h₀ [] h₀) (F : Fr h₀ L s.heap m) (N : News h₀ L s.heap news) (me : m (Str.ofString "ends") = some (.ref De))
    (k : ∀ h' tk' D kD m', Fr h₀ L h' m' → m' (Str.ofString "ends") = some (.ref De) → m' (Str.ofString "marks") = some (.ref D) → News h₀ L h' ((D, ({ cls := .type "list", data := .seq #[] kD } : Obj)) :: news) → (∀ p ∈ news, p.1 < D) → Q .next { s with heap := h', toks := tk' }) :
    wpAny (model PySem.Challenge.rw_zn0008_01.row.prog w) (callerA.deeper (lawE lawScope L fa cd)) (exec (lawS 8) (lawE lawScope L fa cd)) Q E s := by
  refine law_open (st' := PySem.Stmt.Assign _ _ _) (sc' := ⟨_, _, _, _, _⟩) rfl rfl ?_
  revert X; k_fill; intro X
  k_steps
  refine k _ _ _ 0 _ (by assumption) ?_ rfl (by assumption) (by assumption)
  exact me
example : True := by w_top off; trivial
theorem stmt_true {w : World} {mean : ExcName → Option Value} {mg mb : Str → Option Value} {h₀ : Heap} {L fa : Addr} {cd : Value} {m : Str → Option Value} {news : List (Addr × Obj)} {s : Shared} {Q : Flow → Shared → Prop} {E : Value → Shared → Prop}
    (X : (lay.heap_1 w.params).In h₀) (T : Top V loo mean mg mb h₀) (B : Below callerA h₀ [] h₀) (F : Fr h₀ L s.heap m) (N : News h₀ L s.heap news) (k : Q (.ret (.bool true)) s) :
    wpAny (model PySem.Challenge.rw_zn0008_01.row.prog w) (callerA.deeper (lawE lawScope L fa cd)) (exec (lawS 12) (lawE lawScope L fa cd)) Q E s := by
  refine law_open (st' := PySem.Stmt.Return _ _) (sc' := ⟨_, _, _, _, _⟩) rfl rfl ?_
  revert X; k_fill; intro X
  k_steps
  exact k
theorem law_walk {w : World} {mean : ExcName → Option Value} {mg mb : Str → Option Value} {h₀ : Heap} {L fa l : Addr} {cd : Value} {m : Str → Option Value} {news Xs : List (Addr × Obj)} {vs : Nat → Option Value} {s : Shared} {Q : Flow → Shared → Prop} {E : Value → Shared → Prop} {items : List Value} {ns : List Int}
    (hL : h₀.IsList l items.toArray) (hI : IntsAre items ns) (hz : items.length ≤ 1000) (X : (lay.heap_1 w.params).In h₀) (T : Top V loo mean mg mb h₀) (B : Below callerA h₀ [] h₀) (F : Fr h₀ L s.heap m) (N : News h₀ L s.heap news) (S : LSt L news Xs vs)
    (hm : m (Str.ofString "script") = some (.ref l)) (hQ : ∀ h' tk' m' news', Fr h₀ L h' m' → News h₀ L h' news' → Q (.ret (.bool true)) { s with heap := h', toks := tk' }) :
    wpAny (model PySem.Challenge.rw_zn0008_01.row.prog w) (callerA.deeper (lawE lawScope L fa cd)) (execs [lawS 0, lawS 1, lawS 2, lawS 3, lawS 4, lawS 5, lawS 6, lawS 7, lawS 8, lawS 9, lawS 10, lawS 11, lawS 12] (lawE lawScope L fa cd)) Q E s := by
  refine wpAny_execs_cons (stmt_u hL hI hz X T B F N S hm fun h1 tk1 u tu n1 m1 hul hu4 F1 N1 S1 hs1 hu1 => ?_)
  refine wpAny_execs_cons (stmt_v hL hI hz X T B F1 N1 S1 hs1 hu1 fun h2 tk2 v tv n2 m2 hvl hv4 F2 N2 S2 hu2 hv2 => ?_)
  refine wpAny_execs_cons (stmt_words ⟨by omega, hu4⟩ ⟨by omega, hv4⟩ hul hvl X T B F2 N2 S2 hu2 hv2 fun h3 tk3 W n3 Xs3 m3 F3 N3 S3 hw3 hW3 => ?_)
  refine Classical.byContradiction ?_; intro kG0
  obtain ⟨w4, wok⟩ := words_ok ⟨hul, hu4⟩ ⟨hvl, hv4⟩
  generalize wordsF u v = wss at *
  refine kG0 ?_
  clear kG0
  have h4 : ∀ ws ∈ wss, Four ws := fun ws h => (wok ws h).2
  have w20 : wss.length ≤ 20 ∧ ∀ ws ∈ wss, ws.length ≤ 20 ∧ Four ws := ⟨by omega, fun ws h => ⟨Nat.le_succ_of_le (wok ws h).1, h4 ws h⟩⟩
  have w21 : wss.length ≤ 20 ∧ ∀ ws ∈ wss, ws.length ≤ 20 := ⟨w20.1, fun ws h => (w20.2 ws h).1⟩
  refine wpAny_execs_cons (stmt_books w21 X T B F3 N3 S3 hw3 hW3 fun h4' tk4 n4 Xs4 b4 F4 N4 S4 g4 hB4 => ?_)
  have hW4 := SeqIn.mono hW3 g4 fun _ _ x => x
  refine wpAny_execs_cons (stmt_told (bs := wss.map fun ws => bookF (ws.map cOf)) w21 (by rw [List.length_map]; omega) X T B F4 N4 S4 hw3 hW4 rfl hB4 fun h5 tk5 n5 Xs5 b5 F5 N5 S5 g5 hT5 => ?_)
  have hW5 := SeqIn.mono hW4 g5 fun _ _ x => x
  have hB5 := SeqIn.mono hB4 g5 fun _ _ x => x.mono g5
  refine wpAny_execs_cons (stmt_ways w20 X T B F5 N5 S5 hw3 hW5 fun h6 tk6 n6 Xs6 b6 F6 N6 S6 g6 hY6 => ?_)
  have hB6 := SeqIn.mono hB5 g6 fun _ _ x => x.mono g6
  have hT6 := SeqIn.mono hT5 g6 fun _ _ x => SeqIn.mono x g6 fun _ _ y => y
  refine wpAny_execs_cons (stmt_cmp ⟨w20.1, wok⟩ X T B F6 N6 S6 rfl hB6 rfl hY6 (fun ws h => book_due (h4 ws h)) fun h7 tk7 n7 F7 N7 S7 => ?_)
  refine wpAny_execs_cons (stmt_ends w20 X T B F7 N7 S7 rfl hY6 fun h8 tk8 n8 Xs8 b8 F8 N8 S8 g8 hE8 => ?_)
  have hB8 := SeqIn.mono hB6 g8 fun _ _ x => x.mono g8
  have hT8 := SeqIn.mono hT6 g8 fun _ _ x => SeqIn.mono x g8 fun _ _ y => y
  have hY8 := SeqIn.mono hY6 g8 fun _ _ x => HeadsIn.mono x g8
  refine wpAny_execs_cons (stmt_marks0 X T B F8 N8 rfl fun h9 tk9 D kD m9 F9 me9 mm9 N9 l9 => ?_)
  have S9 := S8.grow (news' := (D, ({ cls := .type "list", data := .seq #[] kD } : Obj)) :: n8) fun p hp => .tail _ hp
  have hD : @LT.lt Nat _ (L + 7) D ∧ ∀ p ∈ Xs8, p.1 ≠ D := ⟨S8.above l9, fun p hp => Nat.ne_of_lt (l9 p (S8.hX p hp).1)⟩
  have hbz : ∀ ws ∈ wss, (bookF (ws.map cOf)).length ≤ 60 ∧ bookF (ws.map cOf) ≠ [] := fun ws h => ⟨book_size ws (wok ws h).1, book_some (h4 ws h)⟩
  refine wpAny_execs_cons (stmt_marks w4 wok (fun ws h => marks_ok (h4 ws h) (wok ws h).1) hbz X T B F9 N9 S9 rfl hB8 rfl hY8 mm9 List.mem_cons_self hD me9 fun h10 tk10 m10 n10 Xs10 vs10 F10 N10 S10 e10 g10 hP10 mm10 me10 => ?_)
  have hB10 := SeqIn.mono hB8 g10 fun _ _ x => x.mono g10
  have hT10 := SeqIn.mono hT8 g10 fun _ _ x => SeqIn.mono x g10 fun _ _ y => y
  have hE10 := SeqIn.mono hE8 g10 fun _ _ x => x
  refine wpAny_execs_cons (stmt_failed X T B F10 N10 S10 fun h11 tk11 n11 t11 F11 N11 S11 => ?_)
  refine wpAny_execs_cons (stmt_cmps w4 rfl (fun ws h => (hbz ws h).1) (fun wi hi wj hj => led_book (h4 wi hi) (h4 wj hj)) (fun wi hi wj hj => munn_le h4 w4 hi hj) (fun wi hi wj hj => munn_eq h4 hi hj) X T B F11 N11 S11
    (e10 1 (by decide)) hB10 (e10 2 (by decide)) hT10 rfl mm10 hP10 me10 hE10 fun h12 tk12 m12 n12 F12 N12 => ?_)
  exact wpAny_execs_cons (stmt_true X T B F12 N12 (hQ _ _ _ _ F12 N12))
example : True := by w_top off; trivial
theorem law_holds : PySem.Challenge.rw_zn0008_01.Holds := by
  w_on
  o_law
  refine hd (by rfl) (by rfl) (by rfl) (by first | assumption | decide +kernel) ?hw ?hc
  case hw => w_witness2
  case hc =>
  k_go0
  all_goals (try k_fold)
  rename_i hI _ hlen _ K0 hD h1 tk1 F w6 w5 w4 w3 w2 w1 w0 c7 c6 c5 c4 c3 c2 c1 N0 X0
  refine law_walk (vs := fun _ => none) (Xs := []) (by assumption) hI ?hz (by assumption) (by assumption) K0 F N0 ?S ?hm ?hQ
  case hz => have := hI.length; omega
  case S => exact ⟨fun _ h => (nomatch h), ⟨w0, by (k_extra "zz mem"), c1⟩, ⟨w1, by (k_extra "zz mem"), c2⟩, ⟨w2, by (k_extra "zz mem"), c3⟩, ⟨w3, by (k_extra "zz mem"), c4⟩, ⟨w4, by (k_extra "zz mem"), c5⟩, ⟨w5, by (k_extra "zz mem"), c6⟩, ⟨w6, by (k_extra "zz mem"), c7⟩⟩
  case hm => rfl
  case hQ =>
    intro h' tk' m' news' F' N'
    k_steps
end Mine
theorem PySem.Challenge.cw_zn0008_01_holds : PySem.Challenge.rw_zn0008_01.Holds := by
  exact Mine.law_holds
