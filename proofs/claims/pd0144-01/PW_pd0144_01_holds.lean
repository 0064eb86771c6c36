import PyProof.Rows.All
import Wide.All
import OpenK.AllK
import Wide.FinOn
import PySem.Challenge.RW_pd0144_01
set_option Elab.async false
set_option maxRecDepth 100000
set_option maxHeartbeats 8000000
set_option linter.unusedVariables false
open PySem PySem.W PyProof.Rows PySem.Calls PySem.Spec
namespace Mine
section
/-! the head in one check by the kernel; the twins that the library holds of its own functions are named, none of the text's own is laid: the proof's term is small -/
/-- the statements of the text that the walk sees: all but the nine that bind `__name__` -/
noncomputable def vw : Program := view PySem.Challenge.pw_pd0144_01 [0, 2, 4, 6, 7, 9, 11, 13, 14, 15, 16, 17, 19, 20, 21, 22, 24, 26, 27, 28, 29, 30, 31, 32, 33]
theorem left_boot {p q : Program} {loose : List Str} {Xt : Shared → Bool} {α : Type} {Yf : Shared → α} {Ya : World → α} {N : Nat} {g0 : Bool}
    (e : opening p = plainProg p.main.scope.names) (hN : Nat.ble 600 N = true) (f : ∀ s, fenceModules? p s = some s)
    (h : ∀ (w : World) (os : OsState), (topFrom treeTable p w N ⟨boot_heap w.params, Array.mk [], boot_drawn, boot_toks, os⟩).map (fun s => (openSeen q loose (importedModules p.main.body) Xt g0 s, Yf s)) = some (openGood q loose, Ya w)) : LeftO p q loose Xt Yf Ya N g0 := fun w => by
  obtain ⟨⟨h', gs, d, k, os⟩, e1, e2⟩ := Option.map_eq_some_iff.mp (boot_open e hN f w)
  obtain ⟨rfl, rfl, rfl, rfl⟩ : h' = boot_heap w.params ∧ gs = Array.mk [] ∧ d = boot_drawn ∧ k = boot_toks := by simpa using e2
  unfold openEnds
  rw [e1]
  exact h w os
theorem said : PySem.Challenge.rw_pd0144_01.wellSaid = true := by
  rw [PySem.W.Fast.te9446332074065402090]
  kernel_rfl
/-- what the top of the text leaves -/
def Left (H : Hook) : Prop := ∀ (w : World) (os : OsState), (topFrom treeTable PySem.Challenge.pw_pd0144_01 w 2718 ⟨boot_heap w.params, Array.mk [], boot_drawn, boot_toks, os⟩).map (fun s =>
  (openSeen vw [] (importedModules PySem.Challenge.pw_pd0144_01.main.body) (fun s => xlAt vw [] s && recOk PySem.Challenge.rw_pd0144_01.row.toRowW.records s) true s, H.obs s)) = some (openGood vw [], H.val w)
theorem head_of (H : Hook) (hl : Left H) {d : DefRec} {kwd : List (Str × Expr)}
    (hdef : defOf vw PySem.Challenge.rw_pd0144_01.row.name = some (d, kwd)) (hp : PySem.Challenge.rw_pd0144_01.row.prog.theDef PySem.Challenge.rw_pd0144_01.row.name = some (d.params, d.body, d.scope)) (hk : kwWritten? d.params.kwonlyargs d.params.kw_defaults = some kwd)
    (hw : PySem.Challenge.rw_pd0144_01.row.toRowW.promised)
    (hc : WalkO vw [] (XL vw []) H.says PySem.Challenge.rw_pd0144_01.row.toRowW d kwd fun f vs => PySem.call f vs) : PySem.Challenge.rw_pd0144_01.row.Holds :=
  holds_open (q := vw) (loose := []) (Xt := fun s => xlAt vw [] s && recOk PySem.Challenge.rw_pd0144_01.row.toRowW.records s) (XP := XL vw []) (Yf := H.obs) (Ya := H.val) (YP := H.says) (N := 2718)
    (left_boot (by kernel_rfl) (by decide) (fun s => by kernel_rfl) hl) H.of H.keeps (fun s e => xl_of s (Bool.and_eq_true_iff.mp e).1) XL.keeps hdef hp hk (fun s e => recFacts_of (Bool.and_eq_true_iff.mp e).2) (by rfl) (row_said said) (by decide +kernel) ⟨rfl, rfl, rfl, rfl, rfl, by decide +kernel⟩ hw hc
theorem law_of (h : PySem.Challenge.rw_pd0144_01.row.Holds) : PySem.Challenge.rw_pd0144_01.Holds := holds_law said fun _ => h
local macro_rules | `(tactic| o_law) => `(tactic| refine law_of ?_)
local macro_rules | `(tactic| o_head $H) => `(tactic| refine head_of $H (fun w os => by unfold topFrom; rw [PySem.W.Fast.te14082659384304107361, PySem.W.Fast.te14364793385576792824, PySem.W.Fast.te4187177175401517315]; kernel_rfl) rfl rfl rfl ?hw ?hc)
open_top hd for PySem.Challenge.rw_pd0144_01
end
/- part A1 -/
theorem freshA1 : True := by
  w_top off
  trivial
section
set_option Elab.async false
set_option maxRecDepth 100000
set_option maxHeartbeats 8000000
section
variable {prog : Program} {w : World} {A : Around} {E : Value → Shared → Prop} {s : Shared}
theorem kind_isn : builtinKind "issubclass.nested" = none := by decide +kernel
theorem plain_isn : plainId "issubclass.nested" = true := by decide +kernel
theorem args_isn (a b c : Value) : argsOk "issubclass.nested" ⟨[a, b, c], []⟩ := by unfold argsOk; kernel_rfl
theorem issub_in {k : Value} {dep : Int} {tk : Tok} {Q : Fin → Shared → Prop} (hk : k = .int dep tk) (hq : Q (.done (.ret (.bool true))) s) :
    wpAny (model prog w) A (Builtin.«issubclass.nested» ⟨[.type "str", .type "str", k], []⟩) Q E s := by
  subst hk
  have h1 := PySem.F.sub_str_str
  have h2 := PySem.F.isi_meta_str
  repeat (any_goals (first | assumption | (rw [h2]) | (rw [h1]) | wp_step))
theorem issub_meets : Meets (Builtin.«issubclass.nested» ⟨[.type "str", .type "str", rawInt 1], []⟩) (fun _ R s => R (.ok (.ret (.bool true))) s) :=
  fun _ _ _ _ _ hs => issub_in rfl hs
theorem issub_tuple {tp : Addr} {tk : Tok} {cs : List Value} {Q : Fin → Shared → Prop} (hcs : cs = [.type "str", .type "bytes"]) (htp : s.heap.get? tp = some { cls := .type "tuple", data := .seq cs.toArray })
    (hq : Q (.done (.ret (.bool true))) s) : wpAny (model prog w) A (Builtin.«issubclass.nested» ⟨[.type "str", .ref tp, .int 0 tk], []⟩) Q E s := by
  obtain ⟨h, g, d, t, os⟩ := s
  have hT2 : (⟨h, g, d, t, os⟩ : Shared).TypeIs (.ref tp) "tuple" := ⟨_, htp, rfl⟩
  have f1 := F.isi_sub_tuple
  repeat (any_goals (first | assumption | wp_step))
  refine wpAny_arrayLoop ?_
  simp only [Option.getD_some, List.toList_toArray]
  subst hcs
  rw [List.forIn_cons]
  refine wpAny_bind (wpAny_bind (call_function_meets kind_isn plain_isn F.entry_issubclass_nested (args_isn _ _ _) issub_meets ?_))
  show wpAny _ _ (truthy (.bool true) >>= _) _ _ _
  refine wpAny_bind (m := truthy (.bool true)) (wpAny_pure ?_)
  refine wpAny_bind (wpAny_pure (wpAny_pure (wpAny_pure ?_)))
  repeat (any_goals (first | assumption | wp_step))
theorem issub_call {tp : Addr} {Q : Value → Shared → Prop} (htp : s.heap.get? tp = some { cls := .type "tuple", data := .seq #[.type "str", .type "bytes"] })
    (hq : Q (.bool true) s) : wpAny (model prog w) A (call (.builtin "issubclass") [.type "str", .ref tp]) Q E s :=
  call_issubclass (S := fun _ R s => s.heap.get? tp = some { cls := .type "tuple", data := .seq #[.type "str", .type "bytes"] } ∧ R (.ok (.ret (.bool true))) s)
    (fun _ _ _ _ _ hs => issubclass_outer (issub_tuple (cs := [.type "str", .type "bytes"]) rfl hs.1 hs.2)) ⟨htp, hq⟩
end
end
/- part A2 -/
theorem freshA2 : True := by
  w_top off
  trivial
section
set_option Elab.async false
set_option maxRecDepth 100000
set_option maxHeartbeats 8000000
local macro_rules | `(tactic| walk_at "call builtin:issubclass") => `(tactic| (k_here; (with_reducible show wpAny _ _ (call (Value.builtin "issubclass") [Value.type "str", Value.ref _]) _ _ _); refine' issub_call ?k1 ?_; (case k1 => exact News.get (by assumption) (by k_mem))))
section
variable {w : World} {mean : ExcName → Option Value} {mg mb : Str → Option Value}
  {dp un : Nat} {gd : Option (List Code)} {cn : Str} {cs : Scope} {a : Addr} {ccd : Value} {cl : List (Str × Addr)} {outer : List Env} {A₀ : Around} {base h₀ : Heap} {L : Addr} {m : Str → Option Value} {news : List (Addr × Obj)} {s : Shared} {Q E : Value → Shared → Prop}

theorem fspath_spec {x : Str} {t : Tok} (B : Below A₀ base outer h₀) (F : Fr h₀ L s.heap m) (X : (hd.heap_1 w.params).In h₀) (N : News h₀ L s.heap news) (T : Top vw (looseW vw []) mean mg mb h₀) (hk : cs.kind = .function) (hdp : dp + 1 < recursionLimit) (hun : un + 8 < cLine)
   (hret : ∀ t' h' tk', Fr h₀ L h' m → News h₀ L h' news → Q (.str x t') {s with heap := h', toks := tk'}) :
   wpAny (model Challenge.rw_pd0144_01.row.prog w) (ktrTop dp un gd cn cs L a ccd cl outer) (call (.ref 94) [.str x t]) Q E s := by
  revert X; k_fill; intro X
  refine wpAny_call ?_
  k_dflt cell_enter
  k_steps
  all_goals exact hret _ _ _ (by assumption) (cb_drop (by assumption) (fun p hp => .tail _ hp))
theorem getsep_spec {x : Str} {t : Tok} (B : Below A₀ base outer h₀) (F : Fr h₀ L s.heap m) (X : (hd.heap_1 w.params).In h₀) (N : News h₀ L s.heap news) (T : Top vw (looseW vw []) mean mg mb h₀) (hk : cs.kind = .function) (hdp : dp + 1 < recursionLimit) (hun : un + 8 < cLine)
   (hret : ∀ t' h' tk', Fr h₀ L h' m → News h₀ L h' news → Q (.str (Str.ofString "/") t') {s with heap := h', toks := tk'}) :
   wpAny (model Challenge.rw_pd0144_01.row.prog w) (ktrTop dp un gd cn cs L a ccd cl outer) (call (.ref 108) [.str x t]) Q E s := by
  revert X; k_fill; intro X
  refine wpAny_call ?_
  k_dflt cell_enter
  k_steps
  all_goals exact hret _ _ _ (by assumption) (by assumption)
end
end
/- part A3 -/
theorem freshA3 : True := by
  w_top off
  trivial
section
set_option Elab.async false
set_option maxRecDepth 100000
set_option maxHeartbeats 8000000
set_option linter.unusedVariables false
local macro_rules | `(tactic| walk_at "call ref") => `(tactic| (k_here; (with_reducible show wpAny _ _ (call (Value.ref 94) [Value.str _ _]) _ _ _); k_dflt (refine' fspath_spec ?k1 ?k2 ?k3 ?k4 ?k5 ?k6 ?k7 ?k8 ?_; (case k1 => k_asm); (case k2 => k_asm); (case k3 => k_asm); (case k4 => k_asm); (case k5 => k_asm); (case k6 => first | exact rfl | assumption); (case k7 => ktr_room); (case k8 => ktr_units)); intro t' h' tk' F' N'; (try dsimp only); (try k_fold)))
local macro_rules | `(tactic| walk_at "call ref") => `(tactic| (k_here; (with_reducible show wpAny _ _ (call (Value.ref 108) [Value.str _ _]) _ _ _); k_dflt (refine' getsep_spec ?k1 ?k2 ?k3 ?k4 ?k5 ?k6 ?k7 ?k8 ?_; (case k1 => k_asm); (case k2 => k_asm); (case k3 => k_asm); (case k4 => k_asm); (case k5 => k_asm); (case k6 => first | exact rfl | assumption); (case k7 => ktr_room); (case k8 => ktr_units)); intro t' h' tk' F' N'; (try dsimp only); (try k_fold)))
def cutAt (x : Str) : Int := Txt.rfind x (Str.ofString "/") + 1
def hd0 (x : Str) : Str := Txt.slice x none (some (Txt.rfind x (Str.ofString "/") + 1))
def headF (x : Str) : Str := if ((hd0 x).length : Int) ≠ 0 then (if (hd0 x != Txt.mul (Str.ofString "/") (hd0 x).length) = true then Txt.rstripChars (hd0 x) (Str.ofString "/") else hd0 x) else hd0 x
def tailF (x : Str) : Str := Txt.slice x (some (Txt.rfind x (Str.ofString "/") + 1)) none
theorem headF_1 {x : Str} (h1 : ((Txt.slice x none (some (Txt.rfind x (Str.ofString "/") + 1))).length : Int) ≠ 0) (h2 : (Txt.slice x none (some (Txt.rfind x (Str.ofString "/") + 1)) != Txt.mul (Str.ofString "/") ((Txt.slice x none (some (Txt.rfind x (Str.ofString "/") + 1))).length : Int)) = true) :
    Txt.rstripChars (Txt.slice x none (some (Txt.rfind x (Str.ofString "/") + 1))) (Str.ofString "/") = headF x := by
  unfold headF hd0; rw [if_pos h1, if_pos h2]
theorem headF_2 {x : Str} (h1 : ((Txt.slice x none (some (Txt.rfind x (Str.ofString "/") + 1))).length : Int) ≠ 0) (h2 : (Txt.slice x none (some (Txt.rfind x (Str.ofString "/") + 1)) != Txt.mul (Str.ofString "/") ((Txt.slice x none (some (Txt.rfind x (Str.ofString "/") + 1))).length : Int)) = false) :
    Txt.slice x none (some (Txt.rfind x (Str.ofString "/") + 1)) = headF x := by
  unfold headF hd0; rw [if_pos h1, if_neg (by rw [h2]; exact Bool.false_ne_true)]
theorem headF_3 {x : Str} (h1 : ((Txt.slice x none (some (Txt.rfind x (Str.ofString "/") + 1))).length : Int) = 0) :
    Txt.slice x none (some (Txt.rfind x (Str.ofString "/") + 1)) = headF x := by
  unfold headF hd0; rw [if_neg (by rw [h1]; exact fun h => h rfl)]
section
variable {w : World} {mean : ExcName → Option Value} {mg mb : Str → Option Value}
  {dp un : Nat} {gd : Option (List Code)} {cn : Str} {cs : Scope} {a : Addr} {ccd : Value} {cl : List (Str × Addr)} {outer : List Env} {A₀ : Around} {base h₀ : Heap} {L : Addr} {m : Str → Option Value} {news : List (Addr × Obj)} {s : Shared} {Q E : Value → Shared → Prop}

theorem dirname_spec {x : Str} {t : Tok} (hx : x.length ≤ 1000) (B : Below A₀ base outer h₀) (F : Fr h₀ L s.heap m) (X : (hd.heap_1 w.params).In h₀) (N : News h₀ L s.heap news) (T : Top vw (looseW vw []) mean mg mb h₀) (hk : cs.kind = .function) (hdp : dp + 3 < recursionLimit) (hun : un + 30 < cLine)
   (hret : ∀ t' h' tk', Fr h₀ L h' m → News h₀ L h' news → Q (.str (headF x) t') {s with heap := h', toks := tk'}) :
   wpAny (model Challenge.rw_pd0144_01.row.prog w) (ktrTop dp un gd cn cs L a ccd cl outer) (call (.ref 129) [.str x t]) Q E s := by
  revert X; k_fill; intro X
  refine wpAny_call ?_
  k_dflt cell_enter
  k_steps
  all_goals (refine cb_retS hret ?_ (by assumption) (by assumption); first | with_reducible exact headF_1 (by assumption) (by assumption) | with_reducible exact headF_2 (by assumption) (by assumption) | with_reducible exact headF_3 (by assumption))
theorem cb_tup2 {h₀ h' : Heap} {L q : Addr} {m : Str → Option Value} {news rest : List (Addr × Obj)} {s : Shared} {Q : Value → Shared → Prop} {x y x' y' : Str} {t1 t2 : Tok} {tk' : Nat}
    (hret : ∀ q t1 t2 h' tk', Fr h₀ L h' m → News h₀ L h' ((q, ({ cls := .type "tuple", data := .seq #[.str x t1, .str y t2] } : Obj)) :: news) → (∀ p ∈ news, p.1 < q) → Q (.ref q) {s with heap := h', toks := tk'})
    (e1 : x' = x) (e2 : y' = y) (F : Fr h₀ L h' m) (N : News h₀ L h' ((q, ({ cls := .type "tuple", data := .seq #[.str x' t1, .str y' t2] } : Obj)) :: rest)) (hs : ∀ p ∈ news, p ∈ rest) (hlt : AllLt q rest) : Q (.ref q) {s with heap := h', toks := tk'} := by
  subst e1 e2
  exact hret q t1 t2 h' tk' F (cb_drop N fun p hp => by rcases List.mem_cons.mp hp with rfl | hp; exact .head _; exact .tail _ (hs p hp)) fun p hp => ktn_ltOf hlt p (hs p hp)
theorem split_spec {x : Str} {t : Tok} (hx : x.length ≤ 1000) (B : Below A₀ base outer h₀) (F : Fr h₀ L s.heap m) (X : (hd.heap_1 w.params).In h₀) (N : News h₀ L s.heap news) (T : Top vw (looseW vw []) mean mg mb h₀) (hk : cs.kind = .function) (hdp : dp + 3 < recursionLimit) (hun : un + 30 < cLine)
   (hret : ∀ q t1 t2 h' tk', Fr h₀ L h' m → News h₀ L h' ((q, ({ cls := .type "tuple", data := .seq #[.str (headF x) t1, .str (tailF x) t2] } : Obj)) :: news) → (∀ p ∈ news, p.1 < q) → Q (.ref q) {s with heap := h', toks := tk'}) :
   wpAny (model Challenge.rw_pd0144_01.row.prog w) (ktrTop dp un gd cn cs L a ccd cl outer) (call (.ref 122) [.str x t]) Q E s := by
  revert X; k_fill; intro X
  refine wpAny_call ?_
  k_dflt cell_enter
  k_steps
  all_goals (refine cb_tup2 hret ?_ rfl (by assumption) (by assumption) (fun p hp => .tail _ hp) (by assumption); first | with_reducible exact headF_1 (by assumption) (by assumption) | with_reducible exact headF_2 (by assumption) (by assumption) | with_reducible exact headF_3 (by assumption))
end
end
/- part B0 -/
theorem freshB0 : True := by
  w_top off
  trivial
section
set_option Elab.async false
set_option maxRecDepth 100000
set_option maxHeartbeats 8000000
set_option linter.unusedVariables false
abbrev frMap {h₀ h : Heap} {L : Addr} {m : Str → Option Value} (_ : Fr h₀ L h m) : Str → Option Value := m
/-- the end of a turn of a for loop whose state is `σ` -/
def TurnE {σ : Type} (h₀ : Heap) (L : Addr) (Led : σ → List (Addr × Obj)) (ps : σ → List (Str × Value)) (stored : List Str) (x : Str) (m₀ : Str → Option Value) (P : σ → Prop) (I : Addr) (oI : Obj) (s₁ s₂ : Shared) : Prop :=
  ∃ c' h' tk m' news', s₂ = { s₁ with heap := h', toks := tk } ∧ Fr h₀ L h' m' ∧ News h₀ L h' news' ∧ (∀ p ∈ (I, oI) :: Led c', p ∈ news') ∧ (∀ p ∈ Led c', p.1 ≠ I) ∧ (∀ p ∈ ps c', m' p.1 = some p.2) ∧
    (∀ z, z ≠ x → (∀ p ∈ ps c', z ≠ p.1) → stored.contains z = false → m' z = m₀ z) ∧ P c'
def TurnQ {σ : Type} (h₀ : Heap) (L : Addr) (Led : σ → List (Addr × Obj)) (ps : σ → List (Str × Value)) (stored : List Str) (x : Str) (m₀ : Str → Option Value) (P : σ → Prop) (I : Addr) (oI : Obj) (Q : Flow → Shared → Prop) (s₁ : Shared) (f : Flow) (s₂ : Shared) : Prop :=
  match f with
  | .ret v => Q (.ret v) s₂
  | .brk => Q .next s₂
  | _ => TurnE h₀ L Led ps stored x m₀ P I oI s₁ s₂
theorem turn_end {σ : Type} {h₀ : Heap} {L : Addr} {Led : σ → List (Addr × Obj)} {ps : σ → List (Str × Value)} {stored : List Str} {x : Str} {m₀ : Str → Option Value} {P : σ → Prop} {I : Addr} {oI : Obj} {s₁ : Shared} {h' : Heap} {tk : Nat} {m' : Str → Option Value} {news' : List (Addr × Obj)} (c' : σ)
    (F : Fr h₀ L h' m') (N : News h₀ L h' news') (hn : ∀ p ∈ (I, oI) :: Led c', p ∈ news') (hI : ∀ p ∈ Led c', p.1 ≠ I) (hk : ∀ p ∈ ps c', m' p.1 = some p.2) (hr : ∀ z, z ≠ x → (∀ p ∈ ps c', z ≠ p.1) → stored.contains z = false → m' z = m₀ z) (hp : P c') :
    TurnE h₀ L Led ps stored x m₀ P I oI s₁ { s₁ with heap := h', toks := tk } := ⟨c', h', tk, m', news', rfl, F, N, hn, hI, hk, hr, hp⟩

section
variable {prog : Program} {w : World} {A : Around} {E : Value → Shared → Prop} {s : Shared} {env : Env} {h₀ : Heap} {x : Str} {body : List Stmt} {Q : Flow → Shared → Prop}
theorem loop_led {σ : Type} {I : Addr} {keep : List (Addr × Obj)} {n : Nat} {PV : Nat → Value → Prop} {St : Nat → Heap → Prop} {m₀ : Str → Option Value} (Led : σ → List (Addr × Obj)) (ps : σ → List (Str × Value)) (stored : List Str) (P : Nat → σ → Prop) (c₀ : σ)
    (W : Walks prog w A I (I :: keep.map (·.1)) [I] n PV St) (hSt : ∀ i h, St i h → ∃ o, h.get? I = some o) (hI0 : h₀.get? I = none) (hIL : I ≠ env.locals) (hkeep : ∀ c, ∀ p ∈ keep, p ∈ Led c) (hoff : ∀ p ∈ Led c₀, p.1 ≠ I) (hst : St 0 s.heap)
    (F : Fr h₀ env.locals s.heap m₀) (N : News h₀ env.locals s.heap (Led c₀)) (hk : ∀ p ∈ ps c₀, m₀ p.1 = some p.2) (hp : P 0 c₀)
    (turn : ∀ i v (c : σ) (u : Str → Option Value) h tk oI, i < n → PV i v → P i c → (∀ p ∈ Led c, p.1 ≠ I) →
      Fr h₀ env.locals h (fun y => if y = x then some v else kstB (fun z => if stored.contains z then u z else m₀ z) (ps c) y) → News h₀ env.locals h ((I, oI) :: Led c) →
      wpAny (model prog w) A (execs body env) (TurnQ h₀ env.locals Led ps stored x m₀ (P (i + 1)) I oI Q { s with heap := h, toks := tk }) E { s with heap := h, toks := tk })
    (done : ∀ (c : σ) (u : Str → Option Value) h tk, P n c → Fr h₀ env.locals h (fun y => if y = x then u y else kstB (fun z => if stored.contains z then u z else m₀ z) (ps c) y) → News h₀ env.locals h (Led c) → Q .next { s with heap := h, toks := tk }) :
    LoopAtV prog w A h₀ env x body Q E (.ref I) s := by
  have hLk : env.locals ∉ I :: keep.map (·.1) := fun hm => by
    rcases List.mem_cons.mp hm with e | hm
    · exact hIL e.symm
    · obtain ⟨p, hp', e⟩ := List.mem_map.mp hm
      exact (N p (hkeep c₀ p hp')).2.1 e
  refine ⟨I, _, _, n, PV, St, m₀, Led c₀, (fun i m nx => ∃ c, nx = Led c ∧ (∀ p ∈ ps c, m p.1 = some p.2) ∧ (∀ z, z ≠ x → (∀ p ∈ ps c, z ≠ p.1) → stored.contains z = false → m z = m₀ z) ∧ P i c), rfl, W, hLk, ?_, ?_, hst, F, N, ⟨c₀, rfl, hk, fun _ _ _ _ => rfl, hp⟩, ?_, ?_⟩
  · intro b hb
    rw [List.mem_singleton.mp hb]; exact hI0
  · intro p hp' hI
    exact hoff p hp' (List.mem_singleton.mp hI)
  · rintro i v m₁ news₁ s₁ own ⟨hh', tk', rfl⟩ hin hPV ⟨c, rfl, h1, h2, hPc⟩ hoff' hown hget hfp hst' F₁ N₁
    obtain ⟨oI, hoI⟩ := hSt _ _ hst'
    have hIown : (I, oI) ∈ own := hfp I (.head _) hI0 oI hoI
    have N₂ : News h₀ env.locals hh' ((I, oI) :: Led c) := fun p hp' => by
      rcases List.mem_cons.mp hp' with rfl | hp'
      · exact N₁ _ (List.mem_append.mpr (.inl hIown))
      · exact N₁ p (List.mem_append.mpr (.inr hp'))
    have hoff₂ : ∀ p ∈ Led c, p.1 ≠ I := fun p hp' e => hoff' p hp' (List.mem_singleton.mpr e)
    refine wpAny_mono (turn i v c m₁ hh' tk' oI hin hPV hPc hoff₂ (kst_fr h1 h2 F₁) N₂) (fun f s₂ q => ?_) fun _ _ e => e
    have fin : TurnE h₀ env.locals Led ps stored x m₀ (P (i + 1)) I oI { s with heap := hh', toks := tk' } s₂ →
        LoopStepU h₀ env.locals [I] own (fun m nx => ∃ c, nx = Led c ∧ (∀ p ∈ ps c, m p.1 = some p.2) ∧ (∀ z, z ≠ x → (∀ p ∈ ps c, z ≠ p.1) → stored.contains z = false → m z = m₀ z) ∧ P (i + 1) c) { s with heap := hh', toks := tk' } .next s₂ := by
      rintro ⟨c', h', tk, m', news', e, F', N', hn', hI', hk', hr', hP'⟩
      refine ⟨rfl, h', tk, m', Led c', e, F', fun p hp' => ?_, fun p hp' hq => hI' p hp' (List.mem_singleton.mp hq), c', rfl, hk', hr', hP'⟩
      rcases List.mem_append.mp hp' with h | h
      · have g := hget p h
        rcases List.mem_cons.mp (hown p h) with e' | e'
        · have : p = (I, oI) := Prod.ext e' (by rw [e'] at g; exact Option.some.inj (g.symm.trans hoI))
          rw [this]; exact N' _ (hn' _ (.head _))
        · obtain ⟨q', hq', e''⟩ := List.mem_map.mp e'
          have g' := (N₂ q' (.tail _ (hkeep c q' hq'))).1
          have : p = q' := Prod.ext e''.symm (by rw [e''] at g'; exact Option.some.inj (g.symm.trans g'))
          rw [this]; exact N' _ (hn' _ (.tail _ (hkeep c' q' hq')))
      · exact N' p (hn' p (.tail _ h))
    cases f with
    | ret v => exact .ret q
    | brk => exact .brk q
    | next => exact .next (fin q)
    | cont => exact .cont (fin q)
  · rintro h' tk m' news' F' N' _ ⟨c, rfl, h1, h2, hPc⟩
    exact done c m' h' tk hPc (kst_frOut h1 h2 F') N'

theorem iter_listL {σ : Type} {l : Addr} {vs : List Value} {nn : Nat} {m₀ : Str → Option Value} (Led : σ → List (Addr × Obj)) (ps : σ → List (Str × Value)) (stored : List Str) (P : Nat → σ → Prop) (c₀ : σ)
    (hh : A.handled = none) (hl : ∀ c, (l, listOf vs.toArray nn) ∈ Led c) (F : Fr h₀ env.locals s.heap m₀) (N : News h₀ env.locals s.heap (Led c₀)) (hk : ∀ p ∈ ps c₀, m₀ p.1 = some p.2) (hp : P 0 c₀)
    (turn : ∀ i v (c : σ) (u : Str → Option Value) h tk I oI, vs[i]? = some v → P i c → (∀ p ∈ Led c, p.1 ≠ I) →
      Fr h₀ env.locals h (fun y => if y = x then some v else kstB (fun z => if stored.contains z then u z else m₀ z) (ps c) y) → News h₀ env.locals h ((I, oI) :: Led c) →
      wpAny (model prog w) A (execs body env) (TurnQ h₀ env.locals Led ps stored x m₀ (P (i + 1)) I oI Q { s with heap := h, toks := tk }) E { s with heap := h, toks := tk })
    (done : ∀ (c : σ) (u : Str → Option Value) h tk, P vs.length c → Fr h₀ env.locals h (fun y => if y = x then u y else kstB (fun z => if stored.contains z then u z else m₀ z) (ps c) y) → News h₀ env.locals h (Led c) → Q .next { s with heap := h, toks := tk }) :
    wpAny (model prog w) A (pyIter (.ref l)) (fun it s₂ => LoopAtV prog w A h₀ env x body Q E it s₂) E s := by
  have hol := (N _ (hl c₀)).1
  have hls : s.heap.IsList l vs.toArray := ⟨_, hol, rfl, nn, rfl⟩
  have hne : l ≠ s.heap.objs.size := Nat.ne_of_lt (Heap.lt_size hol)
  refine wpAny_pyIter_list hls ?_
  have W := Walks.list (prog := prog) (w := w) hh s.heap.objs.size l hne vs.toArray
  have hlen : vs.toArray.size = vs.length := by simp
  rw [hlen] at W
  refine loop_led (keep := [(l, listOf vs.toArray nn)]) Led ps stored P c₀ W (fun i h hs => by obtain ⟨⟨o, ho, _⟩, _⟩ := hs; exact ⟨o, ho⟩) (next_is_new F) (Nat.ne_of_gt F.ns.lt) (fun c p hp' => by rw [List.mem_singleton.mp hp']; exact hl c)
    (fun p hp' => Nat.ne_of_lt (Heap.lt_size (N p hp').1)) ⟨⟨_, Heap.get?_push_size _ rfl, rfl, rfl⟩, hls.at fun o e => Heap.get?_push_of_some _ e⟩ (F.push _) (fun p hp' => ⟨Heap.get?_push_of_some _ (N p hp').1, (N p hp').2⟩) hk hp ?_ done
  intro i v c u h tk oI hi hv hP hoff F' N'
  exact turn i v c u h tk _ oI (by simpa using hv) hP hoff F' N'

theorem iter_tupL {σ : Type} {l : Addr} {vs : List Value} {nn : Nat} {m₀ : Str → Option Value} (Led : σ → List (Addr × Obj)) (ps : σ → List (Str × Value)) (stored : List Str) (P : Nat → σ → Prop) (c₀ : σ)
    (hh : A.handled = none) (hl : ∀ c, (l, ({ cls := .type "tuple", data := .seq vs.toArray nn } : Obj)) ∈ Led c) (F : Fr h₀ env.locals s.heap m₀) (N : News h₀ env.locals s.heap (Led c₀)) (hk : ∀ p ∈ ps c₀, m₀ p.1 = some p.2) (hp : P 0 c₀)
    (turn : ∀ i v (c : σ) (u : Str → Option Value) h tk I oI, vs[i]? = some v → P i c → (∀ p ∈ Led c, p.1 ≠ I) →
      Fr h₀ env.locals h (fun y => if y = x then some v else kstB (fun z => if stored.contains z then u z else m₀ z) (ps c) y) → News h₀ env.locals h ((I, oI) :: Led c) →
      wpAny (model prog w) A (execs body env) (TurnQ h₀ env.locals Led ps stored x m₀ (P (i + 1)) I oI Q { s with heap := h, toks := tk }) E { s with heap := h, toks := tk })
    (done : ∀ (c : σ) (u : Str → Option Value) h tk, P vs.length c → Fr h₀ env.locals h (fun y => if y = x then u y else kstB (fun z => if stored.contains z then u z else m₀ z) (ps c) y) → News h₀ env.locals h (Led c) → Q .next { s with heap := h, toks := tk }) :
    wpAny (model prog w) A (pyIter (.ref l)) (fun it s₂ => LoopAtV prog w A h₀ env x body Q E it s₂) E s := by
  have hol := (N _ (hl c₀)).1
  have hls : s.heap.IsTuple l vs.toArray := ⟨_, hol, rfl, nn, rfl⟩
  have hne : l ≠ s.heap.objs.size := Nat.ne_of_lt (Heap.lt_size hol)
  refine wpAny_pyIter_tuple hls ?_
  have W := Walks.tuple (prog := prog) (w := w) hh s.heap.objs.size l hne vs.toArray
  have hlen : vs.toArray.size = vs.length := by simp
  rw [hlen] at W
  refine loop_led (keep := [(l, ({ cls := .type "tuple", data := .seq vs.toArray nn } : Obj))]) Led ps stored P c₀ W (fun i h hs => by obtain ⟨⟨o, ho, _⟩, _⟩ := hs; exact ⟨o, ho⟩) (next_is_new F) (Nat.ne_of_gt F.ns.lt) (fun c p hp' => by rw [List.mem_singleton.mp hp']; exact hl c)
    (fun p hp' => Nat.ne_of_lt (Heap.lt_size (N p hp').1)) ⟨⟨_, Heap.get?_push_size _ rfl, rfl, rfl⟩, hls.at fun o e => Heap.get?_push_of_some _ e⟩ (F.push _) (fun p hp' => ⟨Heap.get?_push_of_some _ (N p hp').1, (N p hp').2⟩) hk hp ?_ done
  intro i v c u h tk oI hi hv hP hoff F' N'
  exact turn i v c u h tk _ oI (by simpa using hv) hP hoff F' N'
theorem iter_rangeL {σ : Type} {r : Addr} {a₀ b₀ : Int} {t₀ u₀ v₀ : Tok} {n : Nat} {m₀ : Str → Option Value} (Led : σ → List (Addr × Obj)) (ps : σ → List (Str × Value)) (stored : List Str) (P : Nat → σ → Prop) (c₀ : σ)
    (hh : A.handled = none) (hr : IsRange s.heap r a₀ b₀ 1 t₀ u₀ v₀) (hsmall : Builtin.Range.small a₀ b₀ 1 = true) (hsz : Builtin.Range.rangeSize a₀ b₀ 1 = (n : Int)) (F : Fr h₀ env.locals s.heap m₀) (N : News h₀ env.locals s.heap (Led c₀)) (hk : ∀ p ∈ ps c₀, m₀ p.1 = some p.2) (hp : P 0 c₀)
    (turn : ∀ (i : Nat) t (c : σ) (u : Str → Option Value) h tk I oI, i < n → P i c → (∀ p ∈ Led c, p.1 ≠ I) →
      Fr h₀ env.locals h (fun y => if y = x then some (.int (a₀ + (i : Int)) t) else kstB (fun z => if stored.contains z then u z else m₀ z) (ps c) y) → News h₀ env.locals h ((I, oI) :: Led c) →
      wpAny (model prog w) A (execs body env) (TurnQ h₀ env.locals Led ps stored x m₀ (P (i + 1)) I oI Q { s with heap := h, toks := tk }) E { s with heap := h, toks := tk })
    (done : ∀ (c : σ) (u : Str → Option Value) h tk, P n c → Fr h₀ env.locals h (fun y => if y = x then u y else kstB (fun z => if stored.contains z then u z else m₀ z) (ps c) y) → News h₀ env.locals h (Led c) → Q .next { s with heap := h, toks := tk }) :
    wpAny (model prog w) A (pyIter (.ref r)) (fun it s₂ => LoopAtV prog w A h₀ env x body Q E it s₂) E s := by
  refine wpAny_pyIter_range hr hsmall ?_
  have W := Walks.range (prog := prog) (w := w) hh s.heap.objs.size a₀ 1 n
  refine loop_led (keep := []) Led ps stored P c₀ W (fun i h hs => ⟨_, hs⟩) (next_is_new F) (Nat.ne_of_gt F.ns.lt) (fun c p hp' => nomatch hp')
    (fun p hp' => Nat.ne_of_lt (Heap.lt_size (N p hp').1)) (by show IsRangeIter _ _ _ _ _; rw [hsz]; simpa using Heap.get?_push_size _ rfl) (F.push _) (fun p hp' => ⟨Heap.get?_push_of_some _ (N p hp').1, (N p hp').2⟩) hk hp ?_ done
  rintro i v c u h tk oI hi ⟨t, rfl⟩ hP hoff F' N'
  have e1 : a₀ + (i : Int) * 1 = a₀ + (i : Int) := by omega
  rw [e1] at F'
  exact turn i t c u h tk _ oI hi hP hoff F' N'
end
end
/- part A4 -/
theorem freshA4 : True := by
  w_top off
  trivial
local macro_rules | `(tactic| walk_at "mine_same") => `(tactic| (intro z h1 h2 h3; (try simp only [List.forall_mem_cons, List.not_mem_nil, false_implies, implies_true, and_true, ne_eq] at h2); (try simp only [List.contains_cons, List.contains_nil, Bool.or_false, Bool.or_eq_false_iff, beq_eq_false_iff_ne, ne_eq] at h3); (simp [h1, h2, h3, kstB]; done)))
section
set_option Elab.async false
set_option maxRecDepth 100000
set_option maxHeartbeats 8000000
set_option linter.unusedVariables false
local macro_rules | `(tactic| walk_at "call ref") => `(tactic| (k_here; (with_reducible show wpAny _ _ (call (Value.ref 94) [Value.str _ _]) _ _ _); k_dflt (refine' fspath_spec ?k1 ?k2 ?k3 ?k4 ?k5 ?k6 ?k7 ?k8 ?_; (case k1 => k_asm); (case k2 => k_asm); (case k3 => k_asm); (case k4 => k_asm); (case k5 => k_asm); (case k6 => first | exact rfl | assumption); (case k7 => ktr_room); (case k8 => ktr_units)); intro t' h' tk' F' N'; (try dsimp only); (try k_fold)))
local macro_rules | `(tactic| walk_at "call ref") => `(tactic| (k_here; (with_reducible show wpAny _ _ (call (Value.ref 108) [Value.str _ _]) _ _ _); k_dflt (refine' getsep_spec ?k1 ?k2 ?k3 ?k4 ?k5 ?k6 ?k7 ?k8 ?_; (case k1 => k_asm); (case k2 => k_asm); (case k3 => k_asm); (case k4 => k_asm); (case k5 => k_asm); (case k6 => first | exact rfl | assumption); (case k7 => ktr_room); (case k8 => ktr_units)); intro t' h' tk' F' N'; (try dsimp only); (try k_fold)))
theorem try_calm {prog : Program} {w : World} {A : Around} {E : Value → Shared → Prop} {s : Shared} {env : Env} {body : List Stmt} {h₀ : ExceptHandler} {hs : List ExceptHandler} {pos : Pos} {Q : Flow → Shared → Prop}
    (h : wpAny (model prog w) A (execs body env) Q (fun _ _ => False) s) : wpAny (model prog w) A (exec (.Try body (h₀ :: hs) [] [] pos) env) Q E s := by
  refine wpAny_Try_except (wpAny_mono h (fun f s₁ h₁ => ?_) fun _ _ x => x.elim)
  cases f with
  | next => exact wpAny_pure h₁
  | _ => exact h₁
local macro_rules | `(tactic| walk_at "exec Try") => `(tactic| (k_here; (with_reducible show wpAny _ _ (exec (Stmt.Try _ (_ :: _) [] [] _) _) _ _ _); refine try_calm ?_))
section
variable {w : World} {mean : ExcName → Option Value} {mg mb : Str → Option Value}
  {dp un : Nat} {gd : Option (List Code)} {cn : Str} {cs : Scope} {a : Addr} {ccd : Value} {cl : List (Str × Addr)} {outer : List Env} {A₀ : Around} {base h₀ : Heap} {L : Addr} {m : Str → Option Value} {news : List (Addr × Obj)} {s : Shared} {Q E : Value → Shared → Prop}

def joinF (x y : Str) : Str := if Txt.startswith y (Str.ofString "/") = true then y else if (x.length : Int) ≠ 0 then (if Txt.endswith x (Str.ofString "/") = true then x ++ y else x ++ (Str.ofString "/" ++ y)) else y
theorem joinF_1 {x y : Str} (h : Txt.startswith y (Str.ofString "/") = true) : y = joinF x y := by unfold joinF; rw [if_pos h]
theorem joinF_2 {x y : Str} (h : Txt.startswith y (Str.ofString "/") = false) (h1 : (x.length : Int) ≠ 0) (h2 : Txt.endswith x (Str.ofString "/") = true) : x ++ y = joinF x y := by
  unfold joinF; rw [if_neg (by rw [h]; exact Bool.false_ne_true), if_pos h1, if_pos h2]
theorem joinF_3 {x y : Str} (h : Txt.startswith y (Str.ofString "/") = false) (h1 : (x.length : Int) ≠ 0) (h2 : Txt.endswith x (Str.ofString "/") = false) : x ++ (Str.ofString "/" ++ y) = joinF x y := by
  unfold joinF; rw [if_neg (by rw [h]; exact Bool.false_ne_true), if_pos h1, if_neg (by rw [h2]; exact Bool.false_ne_true)]
theorem joinF_4 {x y : Str} (h : Txt.startswith y (Str.ofString "/") = false) (h1 : (x.length : Int) = 0) : y = joinF x y := by
  unfold joinF; rw [if_neg (by rw [h]; exact Bool.false_ne_true), if_neg (by rw [h1]; exact fun h => h rfl)]
theorem join_spec {x y : Str} {t u : Tok} (hx : x.length ≤ 1000) (hy : y.length ≤ 1000) (B : Below A₀ base outer h₀) (F : Fr h₀ L s.heap m) (X : (hd.heap_1 w.params).In h₀) (N : News h₀ L s.heap news) (T : Top vw (looseW vw []) mean mg mb h₀) (hk : cs.kind = .function) (hdp : dp + 3 < recursionLimit) (hun : un + 30 < cLine)
   (hret : ∀ t' h' tk', Fr h₀ L h' m → News h₀ L h' news → Q (.str (joinF x y) t') {s with heap := h', toks := tk'}) :
   wpAny (model Challenge.rw_pd0144_01.row.prog w) (ktrTop dp un gd cn cs L a ccd cl outer) (call (.ref 115) [.str x t, .str y u]) Q E s := by
  revert X; k_fill; intro X
  refine wpAny_call ?_
  k_dflt (refine' kp_rest ?k1 ?k2 ?k3 ?k4 ?k5 ?kA ?kF ?kK ?k6 ?k7 ?k8 ?kV ?kP ?kG ?kB ?_ ?c2 ?c3 ?c4 ?c5; (case kA => exact rfl); (case kF => exact rfl); (case kK => assumption); (case k1 => k_asm); (case k2 => k_asm); (case k3 => k_asm); (case k4 => k_asm); (case k5 => k_asm); (case k6 => k_is); (case k7 => k_is); (case k8 => ktr_room); (case kV => kl_lit); (case kP => exact rfl); (case kG => exact fun _ => rfl); (case kB => exact fun _ => locs rfl); (case c5 => decide); (case c2 => exact rfl); (case c3 => exact rfl); (case c4 => exact rfl); k_whole; intro D' g' L' h' l1 FG' F' N' B' X' T'; (try k_lt l1); (try dsimp only); (try k_lift B'); (try k_fold))
  k_steps
  rename Fr _ _ _ _ => F1
  rename News _ _ _ _ => N1
  refine For_invVF F1 rfl rfl ?_
  refine ld F1 rfl ?_
  obtain ⟨t0, ht0⟩ : ∃ t, frMap F1 (Str.ofString "path") = some (.str x t) := ⟨_, rfl⟩
  refine iter_tupL (σ := Str × Tok) (vs := [.str y u]) (fun _ => (D', ({ cls := .type "tuple", data := .seq #[.str y u] } : Obj)) :: news) (fun c => [(Str.ofString "path", .str c.1 c.2)]) [] (fun i c => if i = 0 then c.1 = x else c.1 = joinF x y) (x, t0) rfl (fun _ => .head _) F1 N1 (fun p hp => by rw [List.mem_singleton.mp hp]; exact ht0) rfl ?_ ?_
  · intro i v c u' h2 tk2 I oI hv hP hoff F2 N2
    match i, hv, hP with
    | 0, hv, hP =>
      cases hv
      obtain ⟨p, tp⟩ := c
      have hP' : p = x := hP
      subst hP'
      clear ht0 F1 N1
      k_steps
      all_goals (refine turn_end (_, _) (by assumption) (by assumption) (fun _ h => h) hoff (by kst_all) (by walk_at "mine_same") ?_)
      all_goals (show _ = joinF _ _; first | exact joinF_1 (by assumption) | exact joinF_2 (by assumption) (by assumption) (by assumption) | exact joinF_3 (by assumption) (by assumption) (by assumption) | exact joinF_4 (by assumption) (by assumption))
    | i + 1, hv, hP => simp at hv
  · intro c u' h2 tk2 hP F2 N2
    obtain ⟨p, tp⟩ := c
    have hP' : p = joinF x y := hP
    clear ht0 F1 N1
    (try dsimp only)
    k_steps
    exact cb_retS hret hP' (by assumption) (cb_drop (by assumption) (fun p hp => .tail _ hp))
end
end
/- part A5 -/
theorem freshA5 : True := by
  w_top off
  trivial
local macro_rules | `(tactic| walk_at "mine_same2") => `(tactic| (intro z h2 h3; (try simp only [List.forall_mem_cons, List.not_mem_nil, false_implies, implies_true, and_true, ne_eq] at h2); (try simp only [List.contains_cons, List.contains_nil, Bool.or_false, Bool.or_eq_false_iff, beq_eq_false_iff_ne, ne_eq] at h3); (simp [h2, h3, kstB]; done)))
section
set_option Elab.async false
set_option maxRecDepth 100000
set_option maxHeartbeats 8000000
set_option linter.unusedVariables false
local macro_rules | `(tactic| walk_at "call ref") => `(tactic| (k_here; (with_reducible show wpAny _ _ (call (Value.ref 115) [Value.str _ _, Value.str _ _]) _ _ _); k_dflt (refine' join_spec ?p0 ?p1 ?k1 ?k2 ?k3 ?k4 ?k5 ?k6 ?k7 ?k8 ?_; (case k1 => k_asm); (case k2 => k_asm); (case k3 => k_asm); (case k4 => k_asm); (case k5 => k_asm); (case k6 => first | exact rfl | assumption); (case k7 => ktr_room); (case k8 => ktr_units); (case p0 => first | assumption | (size_fits) | omega | (simp only [Str.length_append] at *; omega)); (case p1 => first | assumption | (size_fits) | omega | (simp only [Str.length_append] at *; omega))); intro t' h' tk' F' N'; (try dsimp only); (try k_fold)))
def tv (ps : List (Str × Tok)) : List Value := ps.map fun p => .str p.1 p.2
theorem tv_get {ps : List (Str × Tok)} {i : Nat} {v : Value} (h : (tv ps)[i]? = some v) : ∃ p, ps[i]? = some p ∧ v = .str p.1 p.2 := by
  unfold tv at h
  rw [List.getElem?_map] at h
  cases hp : ps[i]? with
  | none => rw [hp] at h; cases h
  | some p => rw [hp] at h; cases h; exact ⟨p, rfl, rfl⟩
theorem tv_length (ps : List (Str × Tok)) : (tv ps).length = ps.length := List.length_map ..
theorem take_snoc {α : Type} {l : List α} {i : Nat} {a : α} (h : l[i]? = some a) : l.take (i + 1) = l.take i ++ [a] := by
  rw [List.take_add_one, h]; rfl
def pathF (xs : List Str) : Str := xs.foldl joinF (Str.ofString "/")
theorem joinF_len (x y : Str) : (joinF x y).length ≤ x.length + y.length + 1 := by
  have h1 : (Str.ofString "/").length = 1 := rfl
  unfold joinF
  split
  · omega
  · split
    · split
      · rw [Str.length_append]; omega
      · rw [Str.length_append, Str.length_append]; omega
    · omega
theorem pathF_len : ∀ (xs : List Str) (p : Str), (∀ x ∈ xs, x.length ≤ 2) → (xs.foldl joinF p).length ≤ p.length + 3 * xs.length
  | [], p, _ => Nat.le_refl _
  | x :: xs, p, h => by
    have h1 := joinF_len p x
    have h2 := h x (.head _)
    have h3 := pathF_len xs (joinF p x) fun y hy => h y (.tail _ hy)
    simp only [List.foldl_cons, List.length_cons]
    omega
section
variable {w : World} {mean : ExcName → Option Value} {mg mb : Str → Option Value}
  {dp un : Nat} {gd : Option (List Code)} {cn : Str} {cs : Scope} {a : Addr} {ccd : Value} {cl : List (Str × Addr)} {outer : List Env} {A₀ : Around} {base h₀ : Heap} {L : Addr} {m : Str → Option Value} {news : List (Addr × Obj)} {s : Shared} {Q E : Value → Shared → Prop}
theorem path_spec {l : Addr} {ps : List (Str × Tok)} {nn : Nat} (hl : (l, listOf (tv ps).toArray nn) ∈ news) (hn : ps.length ≤ 5) (hs : ∀ p ∈ ps, p.1.length ≤ 2) (B : Below A₀ base outer h₀) (F : Fr h₀ L s.heap m) (X : (hd.heap_1 w.params).In h₀) (N : News h₀ L s.heap news) (T : Top vw (looseW vw []) mean mg mb h₀) (hk : cs.kind = .function) (hdp : dp + 6 < recursionLimit) (hun : un + 60 < cLine)
   (hret : ∀ t' h' tk', Fr h₀ L h' m → News h₀ L h' news → Q (.str (pathF (ps.map (·.1))) t') {s with heap := h', toks := tk'}) :
   wpAny (model Challenge.rw_pd0144_01.row.prog w) (ktrTop dp un gd cn cs L a ccd cl outer) (call (.ref 181) [.ref l]) Q E s := by
  revert X; k_fill; intro X
  refine wpAny_call ?_
  k_dflt cell_enter
  k_steps
  rename Fr _ _ _ _ => F1
  rename News _ _ _ _ => N1
  refine For_invVF F1 rfl rfl ?_
  refine ld F1 rfl ?_
  obtain ⟨t0, ht0⟩ : ∃ t, frMap F1 (Str.ofString "path") = some (.str (Str.ofString "/") t) := ⟨_, rfl⟩
  refine iter_listL (σ := Str × Tok) (fun _ => news) (fun c => [(Str.ofString "path", .str c.1 c.2)]) [] (fun i c => c.1 = pathF ((ps.take i).map (·.1))) (Str.ofString "/", t0) rfl (fun _ => hl) F1 N1 (fun p hp => by rw [List.mem_singleton.mp hp]; exact ht0) rfl ?_ ?_
  · intro i v c u' h2 tk2 I oI hv hP hoff F2 N2
    obtain ⟨q, hq, rfl⟩ := tv_get hv
    obtain ⟨p, tp⟩ := c
    have hP' : p = pathF ((ps.take i).map (·.1)) := hP
    have hi : i < ps.length := (List.getElem?_eq_some_iff.mp hq).1
    have hp1 : p.length ≤ 1000 := by
      have h9 := pathF_len ((ps.take i).map (·.1)) (Str.ofString "/") (fun y hy => by obtain ⟨z, hz, rfl⟩ := List.mem_map.mp hy; exact hs z (List.mem_of_mem_take hz))
      have h8 : (Str.ofString "/").length = 1 := rfl
      rw [hP']; unfold pathF
      rw [List.length_map, List.length_take] at h9
      omega
    have hq1 : q.1.length ≤ 1000 := Nat.le_trans (hs q (List.mem_of_getElem? hq)) (by omega)
    have hP2 : joinF p q.1 = pathF ((ps.take (i + 1)).map (·.1)) := by
      rw [take_snoc hq, List.map_append, hP']; unfold pathF; rw [List.foldl_append]; rfl
    clear ht0 F1 N1
    k_steps
    exact turn_end (_, _) (by assumption) (by assumption) (fun _ h => h) hoff (by kst_all) (by walk_at "mine_same") hP2
  · intro c u' h2 tk2 hP F2 N2
    obtain ⟨p, tp⟩ := c
    have hP' : p = pathF (ps.map (·.1)) := by
      have h9 : p = pathF ((ps.take (tv ps).length).map (·.1)) := hP
      rw [tv_length, List.take_length] at h9; exact h9
    clear ht0 F1 N1
    (try dsimp only)
    k_steps
    exact cb_retS hret hP' (by assumption) (by assumption)
end
end
/- part B1 -/
theorem freshB1 : True := by
  w_top off
  trivial
section
set_option Elab.async false
set_option maxRecDepth 100000
set_option maxHeartbeats 8000000
set_option linter.unusedVariables false
def Hold (P : Prop) : Prop := P
theorem hold_ {P : Prop} (h : Hold P) : P := h
/-- the post-state words as a variable: the steps' terms stay small; subst at the end -/
theorem gen_Q {α : Type} {prog : Program} {w : World} {A : Around} {m : Sem α} {Q : α → Shared → Prop} {E : Value → Shared → Prop} {s : Shared} (h : ∀ Q1, Q1 = Q → wpAny (model prog w) A m Q1 E s) : wpAny (model prog w) A m Q E s := h Q rfl
section
variable {prog : Program} {w : World} {A : Around} {s : Shared} {h₀ : Heap} {L : Addr} {m : Str → Option Value} {env : Env}
theorem compT_ind {ct elt : Expr} {x : Str} {scope : Scope} {cl : List (Str × Addr)} {S : List (Addr × Obj) → Prop} {P : Nat → Value → Prop} {Fin : List Value → List (Addr × Obj) → Prop} (Inv : Nat → List Value → List (Addr × Obj) → Prop) {n : Nat}
    (step : ∀ i ys news, i < n → Inv i ys news → ∀ v I oI C oC D m₂ h tk (E' : Value → Shared → Prop), P i v → LCg.NsObj oC m₂ → m₂ x = some v → Fr h₀ L h m → News h₀ L h ((I, oI) :: (C, oC) :: (D, LCg.lst ys) :: news) → LCg.Off3 I C D news → ((@Ne Nat I C) ∧ (@Ne Nat I D) ∧ (@Ne Nat C D)) →
      wpAny (model prog w) A (isTrue ct (compEnvC scope cl C env) (eval ct (compEnvC scope cl C env))) (fun ok s' => if ok = true then
        wpAny (model prog w) A (eval elt (compEnvC scope cl C env)) (LCg.CompEnd h₀ L m { s with heap := h, toks := tk } I oI C oC D (LCg.lst ys) S (fun y news' => Inv (i + 1) (ys ++ [y]) news')) E' s'
        else LCg.CompEnd h₀ L m { s with heap := h, toks := tk } I oI C oC D (LCg.lst ys) S (fun _ news' => Inv (i + 1) ys news') Value.none s') E' { s with heap := h, toks := tk })
    (fin : ∀ ys news, Inv n ys news → Fin ys news) : ∀ k i ys news, i + k = n → Inv i ys news → LCt.CompRestT prog w A h₀ L m env ct elt x scope cl s S P Fin k i ys news
  | 0, i, ys, news, hk, hI => fin ys news (by have : i = n := by omega
                                              rw [← this]; exact hI)
  | k + 1, i, ys, news, hk, hI => by
    refine LCt.CompRestT.succ ?_
    intro v I oI C oC D m₂ h tk E' hP hN hm F N off ne
    refine wpAny_mono (step i ys news (by omega) hI v I oI C oC D m₂ h tk E' hP hN hm F N off ne) (fun ok s' q => ?_) fun _ _ e => e
    cases ok with
    | true =>
      simp only [if_true] at q ⊢
      refine wpAny_mono q (fun y s'' q' => ?_) fun _ _ e => e
      obtain ⟨h', tk', news', e, F', N', off', hS, hr⟩ := q'
      exact ⟨h', tk', news', e, F', N', off', hS, compT_ind Inv step fin k (i + 1) _ _ (by omega) hr⟩
    | false =>
      simp only [Bool.false_eq_true, if_false] at q ⊢
      obtain ⟨h', tk', news', e, F', N', off', hS, hr⟩ := q
      exact ⟨h', tk', news', e, F', N', off', hS, compT_ind Inv step fin k (i + 1) _ _ (by omega) hr⟩
theorem comp_ind {elt : Expr} {x : Str} {scope : Scope} {cl : List (Str × Addr)} {S : List (Addr × Obj) → Prop} {P : Nat → Value → Prop} {Fin : List Value → List (Addr × Obj) → Prop} (Inv : Nat → List Value → List (Addr × Obj) → Prop) {n : Nat}
    (step : ∀ i ys news, i < n → Inv i ys news → ∀ v I oI C oC D m₂ h tk (E' : Value → Shared → Prop), P i v → LCg.NsObj oC m₂ → m₂ x = some v → Fr h₀ L h m → News h₀ L h ((I, oI) :: (C, oC) :: (D, LCg.lst ys) :: news) → LCg.Off3 I C D news → ((@Ne Nat I C) ∧ (@Ne Nat I D) ∧ (@Ne Nat C D)) →
      wpAny (model prog w) A (eval elt (compEnvC scope cl C env)) (LCg.CompEnd h₀ L m { s with heap := h, toks := tk } I oI C oC D (LCg.lst ys) S (fun y news' => Inv (i + 1) (ys ++ [y]) news')) E' { s with heap := h, toks := tk })
    (fin : ∀ ys news, Inv n ys news → Fin ys news) : ∀ k i ys news, i + k = n → Inv i ys news → LCg.CompRest prog w A h₀ L m env elt x scope cl s S P Fin k i ys news
  | 0, i, ys, news, hk, hI => fin ys news (by have : i = n := by omega
                                              rw [← this]; exact hI)
  | k + 1, i, ys, news, hk, hI => by
    refine LCg.CompRest.succ ?_
    intro v I oI C oC D m₂ h tk E' hP hN hm F N off ne
    refine wpAny_mono (step i ys news (by omega) hI v I oI C oC D m₂ h tk E' hP hN hm F N off ne) (fun y s'' q' => ?_) fun _ _ e => e
    obtain ⟨h', tk', news', e, F', N', off', hS, hr⟩ := q'
    exact ⟨h', tk', news', e, F', N', off', hS, comp_ind Inv step fin k (i + 1) _ _ (by omega) hr⟩
end
end
/- part A6 -/
theorem freshA6 : True := by
  w_top off
  trivial
section
set_option Elab.async false
set_option maxRecDepth 100000
set_option maxHeartbeats 8000000
set_option linter.unusedVariables false
theorem pow4_small {k : Nat} (hk : k < 3) : ((4 : Int) ^ k).natAbs < 1073741824 := by
  rcases (by omega : k = 0 ∨ k = 1 ∨ k = 2) with rfl | rfl | rfl <;> decide
theorem div4_ {prog : Program} {w : World} {A : Around} {E : Value → Shared → Prop} {s : Shared} {n : Int} {k : Nat} {t u : Tok} {Q : Value → Shared → Prop} (hk : k < 3) (h : Q (.int (n.fdiv (4 ^ k)) s.toks) { s with toks := s.toks + 1 }) :
    wpAny (model prog w) A (binaryOp .FloorDiv (.int n t) (.int (4 ^ k) u)) Q E s :=
  floordiv_int (Int.pow_ne_zero (by decide)) h (Or.inl (PyProof.noPylong_small (pow4_small hk)))
local macro_rules | `(tactic| walk_at "binaryOp FloorDiv int int") => `(tactic| ((with_reducible refine div4_ ?kd1 ?_); (case kd1 => omega)))
local macro_rules | `(tactic| walk_at "eval ListComp") => `(tactic| ((with_reducible show wpAny _ _ (eval (Expr.ListComp (Expr.Subscript _ _ _) _ _ _) _) _ _ _); refine hold_ ?_))
def nameOf (f : Int) : Str := if f = 1 then Str.ofString "a" else if f = 2 then Str.ofString "b" else Str.ofString "a-"
def figs (n : Int) : List Int := [(n.fdiv (4 ^ 0)).fmod 4, (n.fdiv (4 ^ 1)).fmod 4, (n.fdiv (4 ^ 2)).fmod 4]
theorem figs_lo {n f : Int} {i : Nat} (h : (figs n)[i]? = some f) : 0 ≤ f := by
  have hm := List.mem_of_getElem? h
  unfold figs at hm
  simp only [List.mem_cons, List.not_mem_nil, or_false] at hm
  rcases hm with rfl | rfl | rfl <;> exact Int.fmod_nonneg_of_pos _ (by decide)
theorem figs_hi {n f : Int} {i : Nat} (h : (figs n)[i]? = some f) : f ≤ 3 := by
  have hm := List.mem_of_getElem? h
  unfold figs at hm
  simp only [List.mem_cons, List.not_mem_nil, or_false] at hm
  rcases hm with rfl | rfl | rfl <;> exact Int.le_of_lt_add_one (Int.fmod_lt_of_pos _ (by decide))
def namesF (fs : List Int) : List Str := (fs.filter (fun f => decide (0 < f))).map nameOf
theorem off1_mem {D : Addr} : ∀ {l : List (Addr × Obj)}, LCg.Off1 D l → ∀ p ∈ l, p.1 ≠ D
  | [], _, _, h => nomatch h
  | _ :: _, x, p, h => by
    rcases List.mem_cons.mp h with rfl | h
    · exact x.1
    · exact off1_mem x.2 p h
theorem tv_snoc (ps : List (Str × Tok)) (x : Str) (t : Tok) : tv (ps ++ [(x, t)]) = tv ps ++ [.str x t] := by unfold tv; rw [List.map_append]; rfl
theorem namesF_snoc (fs : List Int) (f : Int) : namesF (fs ++ [f]) = namesF fs ++ namesF [f] := by unfold namesF; rw [List.filter_append, List.map_append]
theorem namesF_snoc0 {fs : List Int} {f : Int} (h : f ≤ 0) : namesF (fs ++ [f]) = namesF fs := by
  rw [namesF_snoc]
  have : namesF [f] = [] := by unfold namesF; rw [List.filter_cons, if_neg (by simp only [decide_eq_true_eq]; omega)]; rfl
  rw [this, List.append_nil]
section
variable {w : World} {mean : ExcName → Option Value} {mg mb : Str → Option Value}
  {dp un : Nat} {gd : Option (List Code)} {cn : Str} {cs : Scope} {a : Addr} {ccd : Value} {cl : List (Str × Addr)} {outer : List Env} {A₀ : Around} {base h₀ : Heap} {L : Addr} {m : Str → Option Value} {news : List (Addr × Obj)} {s : Shared} {Q E : Value → Shared → Prop}
theorem names_spec {n : Int} {t : Tok} (hn0 : 0 ≤ n) (hn1 : n < 1000000) (B : Below A₀ base outer h₀) (F : Fr h₀ L s.heap m) (X : (hd.heap_1 w.params).In h₀) (N : News h₀ L s.heap news) (T : Top vw (looseW vw []) mean mg mb h₀) (hk : cs.kind = .function) (hdp : dp + 6 < recursionLimit) (hun : un + 60 < cLine)
   (hret : ∀ l ps h' tk', ps.map (·.1) = namesF (figs n) → Fr h₀ L h' m → News h₀ L h' ((l, listOf (tv ps).toArray (tv ps).length) :: news) → (∀ p ∈ news, p.1 ≠ l) → Q (.ref l) {s with heap := h', toks := tk'}) :
   wpAny (model Challenge.rw_pd0144_01.row.prog w) (ktrTop dp un gd cn cs L a ccd cl outer) (call (.ref 174) [.int n t]) Q E s := by
  revert X; k_fill; intro X
  refine wpAny_call ?_
  k_dflt (refine' code_defC ?k1 ?k2 ?k3 ?k4 ?k5 ?kA ?kF ?kK ?k6 ?k7 ?k8 ?k9 ?kB ?kD ?_ ?c2 ?c3 ?c4; (case kA => exact rfl); (case kF => exact rfl); (case kK => assumption); (case k1 => k_asm); (case k2 => k_asm); (case k3 => k_asm); (case k4 => k_asm); (case k5 => k_asm); (case k6 => k_is); (case k7 => k_is); (case k8 => ktr_room); (case k9 => exact BindsTo.of_eq rfl); (case kB => exact rfl); (case kD => decide +kernel); (case c2 => exact rfl); (case c3 => exact rfl); (case c4 => exact rfl); k_whole; intro g' L' h' tk' cells' FG' F' N' Y' B' X' T' l1; (try k_lt l1); k_cells Y'; (try simp only [List.cons_append, List.nil_append] at N'); (try dsimp only); (try k_lift B'); (try k_fold))
  k_steps
  unfold Hold
  rename Fr _ _ _ _ => F1
  rename News _ _ _ _ => N1
  refine LCt.ListComp_T (cl := []) F1 rfl (by decide) rfl (by decide) rfl ?_
  walk1
  refine LCt.CompSrcT.ledger rfl F1 N1 (.head _) ?_ ?_
  · rw [List.size_toArray]
    rename (_ : List Value).length = _ => hL
    rw [hL, List.length_map, rangeKs_length]; decide
  · intro g
    rename IntsAre _ _ => hI
    have hI' : IntsAre _ (figs n) := hI
    clear hI
    refine compT_ind (n := 3) (fun i vs nw => ∃ ps, vs = tv ps ∧ ps.map (·.1) = namesF ((figs n).take i) ∧ nw = _) ?_ ?_ _ 0 [] _ ?_ ⟨[], rfl, rfl, rfl⟩
    · rintro i vs nw hi ⟨ps, rfl, hps, rfl⟩ v I oI C oC D m₂ h tk E' hv hN hm F2 N2 off ne
      have hlen : i < (figs n).length := hi
      obtain ⟨f, hf⟩ : ∃ f, (figs n)[i]? = some f := ⟨_, List.getElem?_eq_getElem hlen⟩
      obtain ⟨tf, hx⟩ := hI'.get i f hf
      have hv' : v = .int f tf := by
        have h9 : some v = some (Value.int f tf) := by rw [← hv, ← hx]; simp
        exact Option.some.inj h9
      subst hv'
      have hf0 : 0 ≤ f := figs_lo hf
      have hf1 : f ≤ 3 := figs_hi hf
      clear F1 N1
      k_steps
      · rcases (by omega : f = 1 ∨ f = 2 ∨ f = 3) with rfl | rfl | rfl
        all_goals k_steps
        all_goals exact LCg.CompEnd.intro (by assumption) (by assumption) _ (fun p hp => .tail _ hp) off (.inr ⟨_, .head _, rfl, _, rfl⟩) ⟨ps ++ [(_, _)], by rw [tv_snoc], by rw [take_snoc hf, namesF_snoc, List.map_append, hps]; rfl, rfl⟩
      · exact LCg.CompEnd.intro (by assumption) (by assumption) _ (fun p hp => hp) off (.inr ⟨_, .head _, rfl, _, rfl⟩) ⟨ps, rfl, by rw [take_snoc hf, namesF_snoc0 (by omega)]; exact hps, rfl⟩
    · rintro vs nw ⟨ps, rfl, hps, rfl⟩ D h tk F2 N2 off
      clear F1 N1
      (try dsimp only)
      k_steps
      exact hret D ps _ _ hps (by assumption) (cb_drop (by assumption) (fun p hp => by rcases List.mem_cons.mp hp with rfl | hp; exact .head _; exact .tail _ (.tail _ (.tail _ hp)))) (fun p hp => off1_mem off p (.tail _ (.tail _ hp)))
    · rename (_ : List Value).length = _ => hL
      rw [List.size_toArray, hL]; rfl
end
end
/- part B2 -/
theorem freshB2 : True := by
  w_top off
  trivial
section
set_option Elab.async false
set_option maxRecDepth 100000
set_option maxHeartbeats 8000000
set_option linter.unusedVariables false
section
variable {prog : Program} {w : World} {A : Around} {E : Value → Shared → Prop} {s : Shared} {h₀ : Heap} {L : Addr} {m : Str → Option Value} {news : List (Addr × Obj)}
theorem add_listsL {l b : Addr} {vs ws : List Value} {n1 n2 : Nat} {Q : Value → Shared → Prop} (F : Fr h₀ L s.heap m) (N : News h₀ L s.heap news) (hl : (l, listOf vs.toArray n1) ∈ news) (hb : (b, listOf ws.toArray n2) ∈ news) (hsz : vs.length + ws.length ≤ sizeLine)
    (h : ∀ D h', Fr h₀ L h' m → News h₀ L h' ((D, listOf (vs ++ ws).toArray 0) :: news) → (∀ p ∈ news, p.1 < D) → Q (.ref D) { s with heap := h' }) :
    wpAny (model prog w) A (binaryOp .Add (.ref l) (.ref b)) Q E s :=
  add_lists (hsz := hsz) F N ⟨_, (N _ hl).1, rfl, n1, rfl⟩ ⟨_, (N _ hb).1, rfl, n2, rfl⟩ fun h' F' N' => h _ h' F' N' fun p hp => Heap.lt_size (N p hp).1
theorem mem_listOf {l : Addr} {o : Obj} {p : Addr × Obj} (h : p ∈ news) (e : p = (l, o)) : (l, o) ∈ news := e ▸ h
end
end
/- part A7 -/
theorem freshA7 : True := by
  w_top off
  trivial
local macro_rules | `(tactic| walk_at "exec While") => `(tactic| ((with_reducible show wpAny _ _ (exec (Stmt.While _ _ _ _) _) _ _ _); refine hold_ ?_))
local macro_rules | `(tactic| walk_at "exec While Name") => `(tactic| ((with_reducible show wpAny _ _ (exec (Stmt.While _ _ _ _) _) _ _ _); refine hold_ ?_))
local macro_rules | `(tactic| walk_at "exec While Compare") => `(tactic| ((with_reducible show wpAny _ _ (exec (Stmt.While _ _ _ _) _) _ _ _); refine hold_ ?_))
local macro_rules | `(tactic| walk_at "exec While Name cons nil") => `(tactic| ((with_reducible show wpAny _ _ (exec (Stmt.While _ _ _ _) _) _ _ _); refine hold_ ?_))
local macro_rules | `(tactic| walk_at "exec While Compare cons nil") => `(tactic| ((with_reducible show wpAny _ _ (exec (Stmt.While _ _ _ _) _) _ _ _); refine hold_ ?_))
local macro_rules | `(tactic| walk_at "exec For") => `(tactic| ((with_reducible show wpAny _ _ (exec (Stmt.For _ _ _ _ _) _) _ _ _); refine hold_ ?_))
local macro_rules | `(tactic| walk_at "exec For Name Name cons nil") => `(tactic| ((with_reducible show wpAny _ _ (exec (Stmt.For _ _ _ _ _) _) _ _ _); refine hold_ ?_))
local macro_rules | `(tactic| walk_at "exec For Name Call cons nil") => `(tactic| ((with_reducible show wpAny _ _ (exec (Stmt.For _ _ _ _ _) _) _ _ _); refine hold_ ?_))
local macro_rules | `(tactic| walk_at "exec For Tuple Call cons nil") => `(tactic| ((with_reducible show wpAny _ _ (exec (Stmt.For _ _ _ _ _) _) _ _ _); refine hold_ ?_))
section
set_option Elab.async false
set_option maxRecDepth 100000
set_option maxHeartbeats 8000000
set_option linter.unusedVariables false
local macro_rules | `(tactic| walk_at "binaryOp Add ref ref") => `(tactic| (k_here; (with_reducible show wpAny _ _ (binaryOp Operator.Add (Value.ref _) (Value.ref _)) _ _ _); k_dflt (refine' add_listsL ?k1 ?k2 ?k3 ?k4 ?k5 ?_; (case k1 => k_asm); (case k2 => k_asm); (case k3 => first | exact .head _ | exact .tail _ (.head _) | k_mem); (case k4 => first | exact .head _ | exact .tail _ (.head _) | k_mem); (case k5 => walk_at "mine_size")); intro D' h' F' N' l1; (try k_lt l1); (try k_sweep)))
local macro_rules | `(tactic| walk_at "mine_size") => `(tactic| (rw [sizeLine_eq]; (simp only [List.length_append, List.length_cons, List.length_nil, tv_length] at *); omega))
local macro_rules | `(tactic| walk_at "call ref") => `(tactic| (k_here; (with_reducible show wpAny _ _ (call (Value.ref 122) [Value.str _ _]) _ _ _); k_dflt (refine' split_spec ?p0 ?k1 ?k2 ?k3 ?k4 ?k5 ?k6 ?k7 ?k8 ?_; (case k1 => k_asm); (case k2 => k_asm); (case k3 => k_asm); (case k4 => k_asm); (case k5 => k_asm); (case k6 => first | exact rfl | assumption); (case k7 => ktr_room); (case k8 => ktr_units); (case p0 => first | assumption | (size_fits) | omega | (simp only [Str.length_append] at *; omega))); intro q' t1' t2' h' tk' F' N' l1; (try k_lt l1); (try dsimp only); (try k_fold)))
structure RdS where
  p : Str
  tp : Tok
  n : Str
  tn : Tok
  l : Addr
  ps : List (Str × Tok)
  nn : Nat
  k : Nat
def readN : Nat → Str → Str → List Str → Option (List Str)
  | 0, _, _, _ => none
  | k + 1, p, n, acc => if p.length ≤ 1000 ∧ n.length ≤ 1000 ∧ acc.length ≤ 1000 then (if (n.length : Int) ≠ 0 then readN k (headF p) (tailF p) (n :: acc) else some acc) else none
section
variable {w : World} {mean : ExcName → Option Value} {mg mb : Str → Option Value}
  {dp un : Nat} {gd : Option (List Code)} {cn : Str} {cs : Scope} {a : Addr} {ccd : Value} {cl : List (Str × Addr)} {outer : List Env} {A₀ : Around} {base h₀ : Heap} {L : Addr} {m : Str → Option Value} {news : List (Addr × Obj)} {s : Shared} {Q E : Value → Shared → Prop}
theorem read_spec {x : Str} {t : Tok} {R : List Str} (hx : x.length ≤ 1000) (hR : readN 5 (headF x) (tailF x) [] = some R) (B : Below A₀ base outer h₀) (F : Fr h₀ L s.heap m) (X : (hd.heap_1 w.params).In h₀) (N : News h₀ L s.heap news) (T : Top vw (looseW vw []) mean mg mb h₀) (hk : cs.kind = .function) (hdp : dp + 6 < recursionLimit) (hun : un + 60 < cLine)
   (hret : ∀ l ps nn h' tk', ps.map (·.1) = R → Fr h₀ L h' m → News h₀ L h' ((l, listOf (tv ps).toArray nn) :: news) → (∀ p ∈ news, p.1 ≠ l) → Q (.ref l) {s with heap := h', toks := tk'}) :
   wpAny (model Challenge.rw_pd0144_01.row.prog w) (ktrTop dp un gd cn cs L a ccd cl outer) (call (.ref 188) [.str x t]) Q E s := by
  revert X; k_fill; intro X
  refine wpAny_call ?_
  k_dflt cell_enter
  k_steps
  unfold Hold
  rename Fr _ _ _ _ => F1
  rename News _ _ _ _ => N1
  obtain ⟨t1, ht1⟩ : ∃ t, frMap F1 (Str.ofString "path") = some (.str (headF x) t) := ⟨_, rfl⟩
  obtain ⟨t2, ht2⟩ : ∃ t, frMap F1 (Str.ofString "name") = some (.str (tailF x) t) := ⟨_, rfl⟩
  obtain ⟨l0, hl0, hl1, hl2⟩ : ∃ l, frMap F1 (Str.ofString "names") = some (.ref l) ∧ News _ _ _ ((l, listOf (tv []).toArray 0) :: news) ∧ (∀ p ∈ news, p.1 ≠ l) := ⟨_, rfl, cb_drop N1 (fun p hp => .tail _ hp), fun p hp => Nat.ne_of_lt (by rename ∀ p ∈ news, _ => q; exact q p hp)⟩
  refine ksw_while (σ := RdS) (fun c => (c.l, listOf (tv c.ps).toArray c.nn) :: news) (fun c => [(Str.ofString "path", .str c.p c.tp), (Str.ofString "name", .str c.n c.tn), (Str.ofString "names", .ref c.l)]) (fun c => ∀ p ∈ news, p.1 ≠ c.l) [] (fun c => readN c.k c.p c.n (c.ps.map (·.1)) = some R) (fun c => c.k) ⟨headF x, t1, tailF x, t2, l0, [], 0, 5⟩ F1 hl1 hl2
    (by intro p hp; simp only [List.mem_cons, List.not_mem_nil, or_false] at hp; rcases hp with rfl | rfl | rfl; exact ht1; exact ht2; exact hl0) hR ?_
  clear hl2 hl1 hl0 ht1 ht2 F1 N1 t1 t2 l0
  rintro ⟨p, tp, n, tn, l, ps, nn, k⟩ u' h2 tk2 hoff hP F2 N2
  replace hP : readN k p n (ps.map (·.1)) = some R := hP
  cases k with
  | zero => cases hP
  | succ k =>
    unfold readN at hP
    by_cases hpn : p.length ≤ 1000 ∧ n.length ≤ 1000 ∧ (ps.map (·.1)).length ≤ 1000
    · rw [if_pos hpn] at hP
      obtain ⟨hp, hn, hps⟩ := hpn
      rw [List.length_map] at hps
      have hoff' : ∀ q ∈ news, q.1 ≠ l := hoff
      clear hoff
      dsimp only [kstB] at F2 N2
      (try dsimp only)
      k_steps
      · rename ((n.length : Int) ≠ 0) => hn0
        rw [if_pos hn0] at hP
        refine' ksw_end ⟨headF p, ?ta, tailF p, ?tb, ?tD, (n, tn) :: ps, 0, k⟩ (by assumption) (by assumption) ?hn ?hf ?hk ?hr ?hp ?hm
        case hk => kst_all
        case hr => walk_at "mine_same2"
        case hn =>
          intro q hq
          rcases List.mem_cons.mp hq with rfl | hq
          · exact .tail _ (.head _)
          · exact .tail _ (.tail _ (.tail _ (.tail _ hq)))
        case hf =>
          obtain ⟨_, _, hAll⟩ : _ ∧ _ ∧ AllLt _ news := by assumption
          exact fun q hq => Nat.ne_of_lt (ktn_ltOf hAll q hq)
        case hp => exact hP
        case hm => exact Nat.lt_succ_self _
      · rename ((n.length : Int) = 0) => hn0
        rw [if_neg (by rw [hn0]; exact fun h => h rfl)] at hP
        exact hret _ ps _ _ _ (Option.some.inj hP) (by assumption) (by assumption) hoff'
    · rw [if_neg hpn] at hP; cases hP
end
end
/- part A8 -/
theorem freshA8 : True := by
  w_top off
  trivial
local macro_rules | `(tactic| k_all) => `(tactic| assumption)
section
set_option Elab.async false
set_option maxRecDepth 100000
set_option maxHeartbeats 8000000
set_option linter.unusedVariables false
local macro_rules | `(tactic| walk_at "call ref") => `(tactic| (k_here; (with_reducible show wpAny _ _ (call (Value.ref 129) [Value.str _ _]) _ _ _); k_dflt (refine' dirname_spec ?p0 ?k1 ?k2 ?k3 ?k4 ?k5 ?k6 ?k7 ?k8 ?_; (case k1 => k_asm); (case k2 => k_asm); (case k3 => k_asm); (case k4 => k_asm); (case k5 => k_asm); (case k6 => first | exact rfl | assumption); (case k7 => ktr_room); (case k8 => ktr_units); (case p0 => first | assumption | (size_fits) | omega | (simp only [Str.length_append] at *; omega))); intro t' h' tk' F' N'; (try dsimp only); (try k_fold)))
theorem tv_push (ps : List (Str × Tok)) (x : Str) (t : Tok) : (tv ps).toArray.push (.str x t) = (tv (ps ++ [(x, t)])).toArray := by rw [tv_snoc, List.push_toArray]
structure AbS where
  p : Str
  tp : Tok
  l : Addr
  ps : List (Str × Tok)
  nn : Nat
  k : Nat
def aboveN : Nat → Str → List Str → Option (List Str)
  | 0, _, _ => none
  | k + 1, p, acc => if p.length ≤ 1000 ∧ acc.length ≤ 1000 then (if (p != Str.ofString "/") = true then aboveN k (headF p) (acc ++ [headF p]) else some acc) else none
section
variable {w : World} {mean : ExcName → Option Value} {mg mb : Str → Option Value}
  {dp un : Nat} {gd : Option (List Code)} {cn : Str} {cs : Scope} {a : Addr} {ccd : Value} {cl : List (Str × Addr)} {outer : List Env} {A₀ : Around} {base h₀ : Heap} {L : Addr} {m : Str → Option Value} {news : List (Addr × Obj)} {s : Shared} {Q E : Value → Shared → Prop}
theorem above_spec {x : Str} {t : Tok} {R : List Str} (hx : x.length ≤ 1000) (hR : aboveN 5 x [x] = some R) (B : Below A₀ base outer h₀) (F : Fr h₀ L s.heap m) (X : (hd.heap_1 w.params).In h₀) (N : News h₀ L s.heap news) (T : Top vw (looseW vw []) mean mg mb h₀) (hk : cs.kind = .function) (hdp : dp + 6 < recursionLimit) (hun : un + 60 < cLine)
   (hret : ∀ l ps nn h' tk', ps.map (·.1) = R → Fr h₀ L h' m → News h₀ L h' ((l, listOf (tv ps).toArray nn) :: news) → (∀ p ∈ news, p.1 ≠ l) → Q (.ref l) {s with heap := h', toks := tk'}) :
   wpAny (model Challenge.rw_pd0144_01.row.prog w) (ktrTop dp un gd cn cs L a ccd cl outer) (call (.ref 195) [.str x t]) Q E s := by
  revert X; k_fill; intro X
  refine wpAny_call ?_
  k_dflt cell_enter
  k_steps
  unfold Hold
  rename Fr _ _ _ _ => F1
  rename News _ _ _ _ => N1
  obtain ⟨t1, ht1⟩ : ∃ t, frMap F1 (Str.ofString "path") = some (.str x t) := ⟨_, rfl⟩
  obtain ⟨l0, hl0, hl1, hl2⟩ : ∃ l, frMap F1 (Str.ofString "line") = some (.ref l) ∧ News _ _ _ ((l, listOf (tv [(x, t)]).toArray 0) :: news) ∧ (∀ p ∈ news, p.1 ≠ l) := ⟨_, rfl, N1, fun p hp => Nat.ne_of_lt (by rename ∀ p ∈ news, _ => q; exact q p hp)⟩
  refine ksw_while (σ := AbS) (fun c => (c.l, listOf (tv c.ps).toArray c.nn) :: news) (fun c => [(Str.ofString "path", .str c.p c.tp), (Str.ofString "line", .ref c.l)]) (fun c => ∀ p ∈ news, p.1 ≠ c.l) [] (fun c => aboveN c.k c.p (c.ps.map (·.1)) = some R) (fun c => c.k) ⟨x, t1, l0, [(x, t)], 0, 5⟩ F1 hl1 hl2
    (by intro p hp; simp only [List.mem_cons, List.not_mem_nil, or_false] at hp; rcases hp with rfl | rfl; exact ht1; exact hl0) hR ?_
  clear hl2 hl1 hl0 ht1 F1 N1 t1 l0
  rintro ⟨p, tp, l, ps, nn, k⟩ u' h2 tk2 hoff hP F2 N2
  replace hP : aboveN k p (ps.map (·.1)) = some R := hP
  cases k with
  | zero => cases hP
  | succ k =>
    unfold aboveN at hP
    by_cases hpn : p.length ≤ 1000 ∧ (ps.map (·.1)).length ≤ 1000
    · rw [if_pos hpn] at hP
      obtain ⟨hp, hps⟩ := hpn
      rw [List.length_map] at hps
      have hps2 : (tv ps).length ≤ 1000 := by rw [tv_length]; exact hps
      have hoff' : ∀ q ∈ news, q.1 ≠ l := hoff
      clear hoff
      dsimp only [kstB] at F2 N2
      (try dsimp only)
      k_steps
      · rename ((p != Str.ofString "/") = true) => hn0
        rw [if_pos hn0] at hP
        refine' ksw_end ⟨headF p, ?ta, l, ps ++ [(headF p, ?ta)], nn + 1, k⟩ (by assumption) (by assumption) ?hn ?hf ?hk ?hr ?hp ?hm
        case hk => kst_all
        case hr => walk_at "mine_same2"
        case hn =>
          intro q hq
          rcases List.mem_cons.mp hq with rfl | hq
          · show (l, listOf (tv (ps ++ [(headF p, _)])).toArray (nn + 1)) ∈ _
            rw [← tv_push]; exact .head _
          · exact .tail _ hq
        case hf => exact hoff'
        case hp =>
          dsimp only
          rw [List.map_append]; exact hP
        case hm => exact Nat.lt_succ_self _
      · rename ((p != Str.ofString "/") = false) => hn0
        rw [if_neg (by rw [hn0]; exact Bool.false_ne_true)] at hP
        exact hret _ ps _ _ _ (Option.some.inj hP) (by assumption) (by assumption) hoff'
    · rw [if_neg hpn] at hP; cases hP
end
end
/- part B3 -/
theorem freshB3 : True := by
  w_top off
  trivial
section
set_option Elab.async false
set_option maxRecDepth 100000
set_option maxHeartbeats 8000000
set_option linter.unusedVariables false
open PySem.SeqAt
open AutoSeq1 (wpAny_loadPart')
open MeetsSeq MeetsSeq2 MeetsSeq3 SeqRoads2
def OcAt (op : CmpOp) (A : Around) (s : Shared) (y x : Value) (b : Bool) : Prop :=
  ∀ (prog : Program) (w : World) (E : Value → Shared → Prop) (Q : Value → Shared → Prop), Q (.bool b) s → wpAny (model prog w) A (richCompare op y x) Q E s
def lexB (e c : Nat → Bool) (z : Bool) : Nat → Nat → Bool
  | 0, _ => z
  | k + 1, i => if e i = true then lexB e c z k (i + 1) else c i

theorem lt_loopAt (l b : Addr) (items items2 : Array Value) (n n2 : Nat) (dd dd2 : Option Addr) (sl sl2 : Array (Option Value)) (e c : Nat → Bool) (k : Nat) :
    ∀ i : Nat, min items.size items2.size - i = k → Meets (Builtin.«list.__eq__.loop» ⟨[.ref l, .ref b, rawInt i, rawInt 0], []⟩)
      (fun A R s => s.heap.get? l = some { cls := .type "list", dict := dd, data := .seq items n, slots := sl } ∧ s.heap.get? b = some { cls := .type "list", dict := dd2, data := .seq items2 n2, slots := sl2 } ∧
        (∀ j (h1 : j < items.size) (h2 : j < items2.size), EqAt A.in1 s items[j] items2[j] (e j)) ∧ (∀ j (h1 : j < items.size) (h2 : j < items2.size), e j = false → OcAt .Lt A.in1 s items[j] items2[j] (c j)) ∧
        R (.ok (.ret (.bool (lexB e c (decide (items.size < items2.size)) k i)))) s) := by
  induction k with
  | zero =>
    intro i hk prog w A R s h
    obtain ⟨hp, g, d, tk, os⟩ := s; obtain ⟨hl, hb, he, ho, h⟩ := h
    wp_walk using wpAny_loadPart' hl, wpAny_loadPart' hb
    by_cases h1 : i < items.size
    · have hi1 : items[((i : Nat) : Int).toNat]? = some items[i] := by simp [h1]
      have hi2 : items2[((i : Nat) : Int).toNat]? = none := by simp; omega
      rw [hi1, hi2]
      wp_walk using wpAny_loadPart' hl, wpAny_loadPart' hb
      exact h
    · have hi1 : items[((i : Nat) : Int).toNat]? = none := by simp; omega
      rw [hi1]
      wp_walk using wpAny_loadPart' hl, wpAny_loadPart' hb
      exact h
  | succ k ih =>
    intro i hk prog w A R s h
    obtain ⟨hp, g, d, tk, os⟩ := s; obtain ⟨hl, hb, he, ho, h⟩ := h
    wp_walk using wpAny_loadPart' hl, wpAny_loadPart' hb
    have hlt : i < items.size := by omega
    have hlt2 : i < items2.size := by omega
    have hi1 : items[((i : Nat) : Int).toNat]? = some items[i] := by simp [hlt]
    have hi2 : items2[((i : Nat) : Int).toNat]? = some items2[i] := by simp [hlt2]
    have hc : ((i : Int) + 1) = ((i + 1 : Nat) : Int) := by push_cast; rfl
    rw [hi1, hi2]
    refine wpAny_bind (he i hlt hlt2 prog w _ _ ?_)
    unfold lexB at h
    cases hb' : e i with
    | true =>
      rw [hb'] at h
      simp only [if_true] at h
      wp_walk
      rw [hc]
      exact ⟨plainId_quiet plain_eq_loop _, codeAny_builtin entry_eq_loop (by
        rw [Around.under_plainId plain_eq_loop _]
        exact ih (i + 1) (by omega) prog w A R _ ⟨hl, hb, he, ho, h⟩)⟩
    | false =>
      rw [hb'] at h
      simp only [Bool.false_eq_true, if_false] at h
      wp_walk using wpAny_loadPart' hl, wpAny_loadPart' hb
      rw [hi1, hi2]
      refine wpAny_bind (ho i hlt hlt2 hb' prog w _ _ ?_)
      wp_walk
      exact h
theorem list_ltAt (l b : Addr) (items items2 : Array Value) (n n2 : Nat) (dd dd2 : Option Addr) (sl sl2 : Array (Option Value)) (e c : Nat → Bool) :
    Meets (Builtin.«list.__lt__» ⟨[.ref l, .ref b], []⟩)
      (fun A R s => s.heap.get? l = some { cls := .type "list", dict := dd, data := .seq items n, slots := sl } ∧ s.heap.get? b = some { cls := .type "list", dict := dd2, data := .seq items2 n2, slots := sl2 } ∧
        (∀ j (h1 : j < items.size) (h2 : j < items2.size), EqAt A.in1 s items[j] items2[j] (e j)) ∧ (∀ j (h1 : j < items.size) (h2 : j < items2.size), e j = false → OcAt .Lt A.in1 s items[j] items2[j] (c j)) ∧
        R (.ok (.ret (.bool (lexB e c (decide (items.size < items2.size)) (min items.size items2.size) 0)))) s) := by
  intro prog w A R s h
  obtain ⟨hp, g, d, tk, os⟩ := s; obtain ⟨hl, hb, he, ho, h⟩ := h
  have f3 := AutoSeq1.sub_list_list
  wp_walk using wpAny_loadPart' hl, wpAny_loadPart' hb
  exact ⟨plainId_quiet plain_eq_loop _, codeAny_builtin entry_eq_loop (by
    rw [Around.under_plainId plain_eq_loop _]
    exact lt_loopAt l b items items2 n n2 dd dd2 sl sl2 e c _ 0 rfl prog w A R _ ⟨hl, hb, he, ho, h⟩)⟩
theorem OcAt.lt_lists {A : Around} {s : Shared} {l b : Addr} {items items2 : Array Value} {e c : Nat → Bool} (hl : s.heap.IsList l items) (hb : s.heap.IsList b items2) (hu : A.units < cLine)
    (he : ∀ j (h1 : j < items.size) (h2 : j < items2.size), EqAt A.in1 s items[j] items2[j] (e j)) (ho : ∀ j (h1 : j < items.size) (h2 : j < items2.size), e j = false → OcAt .Lt A.in1 s items[j] items2[j] (c j)) :
    OcAt .Lt A s (.ref l) (.ref b) (lexB e c (decide (items.size < items2.size)) (min items.size items2.size) 0) := fun prog w E Q h => by
  obtain ⟨⟨cls, dd, data, sl⟩, ho1, hc, n, hd⟩ := id hl
  obtain ⟨⟨cls2, dd2, data2, sl2⟩, ho2, hc2, n2, hd2⟩ := id hb
  simp only at hc hd hc2 hd2
  subst hc hd hc2 hd2
  exact richCompare_meets_room (op := .Lt) ⟨_, ho1, rfl⟩ ⟨_, ho2, rfl⟩ F.slot_list_lt F.entry_list_lt (F.args_list_lt_2 _ _) (list_ltAt l b items items2 n n2 dd dd2 sl sl2 e c)
    ⟨ho1, ho2, he, ho, show Value.bool _ ≠ Value.notImplemented ∧ Q (.bool _) s from ⟨(fun x => nomatch x), h⟩⟩ hu
theorem OcAt.lt_str {A : Around} {s : Shared} {x y : Str} {t u : Tok} : OcAt .Lt A s (.str x t) (.str y u) (decide (x.cps.toList < y.cps.toList)) := fun prog w E Q h =>
  PySem.P.lt_str h
theorem OcAt.lt_int {A : Around} {s : Shared} {x y : Int} {t u : Tok} : OcAt .Lt A s (.int x t) (.int y u) (decide (x < y)) := fun prog w E Q h =>
  PyProof.Rows.lt_int h

theorem gt_loopAt (l b : Addr) (items items2 : Array Value) (n n2 : Nat) (dd dd2 : Option Addr) (sl sl2 : Array (Option Value)) (e c : Nat → Bool) (k : Nat) :
    ∀ i : Nat, min items.size items2.size - i = k → Meets (Builtin.«list.__eq__.loop» ⟨[.ref l, .ref b, rawInt i, rawInt 4], []⟩)
      (fun A R s => s.heap.get? l = some { cls := .type "list", dict := dd, data := .seq items n, slots := sl } ∧ s.heap.get? b = some { cls := .type "list", dict := dd2, data := .seq items2 n2, slots := sl2 } ∧
        (∀ j (h1 : j < items.size) (h2 : j < items2.size), EqAt A.in1 s items[j] items2[j] (e j)) ∧ (∀ j (h1 : j < items.size) (h2 : j < items2.size), e j = false → OcAt .Gt A.in1 s items[j] items2[j] (c j)) ∧
        R (.ok (.ret (.bool (lexB e c (decide (items.size > items2.size)) k i)))) s) := by
  induction k with
  | zero =>
    intro i hk prog w A R s h
    obtain ⟨hp, g, d, tk, os⟩ := s; obtain ⟨hl, hb, he, ho, h⟩ := h
    wp_walk using wpAny_loadPart' hl, wpAny_loadPart' hb
    by_cases h1 : i < items.size
    · have hi1 : items[((i : Nat) : Int).toNat]? = some items[i] := by simp [h1]
      have hi2 : items2[((i : Nat) : Int).toNat]? = none := by simp; omega
      rw [hi1, hi2]
      wp_walk using wpAny_loadPart' hl, wpAny_loadPart' hb
      exact h
    · have hi1 : items[((i : Nat) : Int).toNat]? = none := by simp; omega
      rw [hi1]
      wp_walk using wpAny_loadPart' hl, wpAny_loadPart' hb
      exact h
  | succ k ih =>
    intro i hk prog w A R s h
    obtain ⟨hp, g, d, tk, os⟩ := s; obtain ⟨hl, hb, he, ho, h⟩ := h
    wp_walk using wpAny_loadPart' hl, wpAny_loadPart' hb
    have hlt : i < items.size := by omega
    have hlt2 : i < items2.size := by omega
    have hi1 : items[((i : Nat) : Int).toNat]? = some items[i] := by simp [hlt]
    have hi2 : items2[((i : Nat) : Int).toNat]? = some items2[i] := by simp [hlt2]
    have hc : ((i : Int) + 1) = ((i + 1 : Nat) : Int) := by push_cast; rfl
    rw [hi1, hi2]
    refine wpAny_bind (he i hlt hlt2 prog w _ _ ?_)
    unfold lexB at h
    cases hb' : e i with
    | true =>
      rw [hb'] at h
      simp only [if_true] at h
      wp_walk
      rw [hc]
      exact ⟨plainId_quiet plain_eq_loop _, codeAny_builtin entry_eq_loop (by
        rw [Around.under_plainId plain_eq_loop _]
        exact ih (i + 1) (by omega) prog w A R _ ⟨hl, hb, he, ho, h⟩)⟩
    | false =>
      rw [hb'] at h
      simp only [Bool.false_eq_true, if_false] at h
      wp_walk using wpAny_loadPart' hl, wpAny_loadPart' hb
      rw [hi1, hi2]
      refine wpAny_bind (ho i hlt hlt2 hb' prog w _ _ ?_)
      wp_walk
      exact h
theorem list_gtAt (l b : Addr) (items items2 : Array Value) (n n2 : Nat) (dd dd2 : Option Addr) (sl sl2 : Array (Option Value)) (e c : Nat → Bool) :
    Meets (Builtin.«list.__gt__» ⟨[.ref l, .ref b], []⟩)
      (fun A R s => s.heap.get? l = some { cls := .type "list", dict := dd, data := .seq items n, slots := sl } ∧ s.heap.get? b = some { cls := .type "list", dict := dd2, data := .seq items2 n2, slots := sl2 } ∧
        (∀ j (h1 : j < items.size) (h2 : j < items2.size), EqAt A.in1 s items[j] items2[j] (e j)) ∧ (∀ j (h1 : j < items.size) (h2 : j < items2.size), e j = false → OcAt .Gt A.in1 s items[j] items2[j] (c j)) ∧
        R (.ok (.ret (.bool (lexB e c (decide (items.size > items2.size)) (min items.size items2.size) 0)))) s) := by
  intro prog w A R s h
  obtain ⟨hp, g, d, tk, os⟩ := s; obtain ⟨hl, hb, he, ho, h⟩ := h
  have f3 := AutoSeq1.sub_list_list
  wp_walk using wpAny_loadPart' hl, wpAny_loadPart' hb
  exact ⟨plainId_quiet plain_eq_loop _, codeAny_builtin entry_eq_loop (by
    rw [Around.under_plainId plain_eq_loop _]
    exact gt_loopAt l b items items2 n n2 dd dd2 sl sl2 e c _ 0 rfl prog w A R _ ⟨hl, hb, he, ho, h⟩)⟩
theorem OcAt.gt_lists {A : Around} {s : Shared} {l b : Addr} {items items2 : Array Value} {e c : Nat → Bool} (hl : s.heap.IsList l items) (hb : s.heap.IsList b items2) (hu : A.units < cLine)
    (he : ∀ j (h1 : j < items.size) (h2 : j < items2.size), EqAt A.in1 s items[j] items2[j] (e j)) (ho : ∀ j (h1 : j < items.size) (h2 : j < items2.size), e j = false → OcAt .Gt A.in1 s items[j] items2[j] (c j)) :
    OcAt .Gt A s (.ref l) (.ref b) (lexB e c (decide (items.size > items2.size)) (min items.size items2.size) 0) := fun prog w E Q h => by
  obtain ⟨⟨cls, dd, data, sl⟩, ho1, hc, n, hd⟩ := id hl
  obtain ⟨⟨cls2, dd2, data2, sl2⟩, ho2, hc2, n2, hd2⟩ := id hb
  simp only at hc hd hc2 hd2
  subst hc hd hc2 hd2
  exact richCompare_meets_room (op := .Gt) ⟨_, ho1, rfl⟩ ⟨_, ho2, rfl⟩ F.slot_list_gt F.entry_list_gt (F.args_list_gt_2 _ _) (list_gtAt l b items items2 n n2 dd dd2 sl sl2 e c)
    ⟨ho1, ho2, he, ho, show Value.bool _ ≠ Value.notImplemented ∧ Q (.bool _) s from ⟨(fun x => nomatch x), h⟩⟩ hu
theorem OcAt.gt_str {A : Around} {s : Shared} {x y : Str} {t u : Tok} : OcAt .Gt A s (.str x t) (.str y u) (decide (x.cps.toList > y.cps.toList)) := fun prog w E Q h =>
  PySem.P.gt_str h
theorem OcAt.gt_int {A : Around} {s : Shared} {x y : Int} {t u : Tok} : OcAt .Gt A s (.int x t) (.int y u) (decide (x > y)) := fun prog w E Q h =>
  PyProof.Rows.gt_int h
end
/- part B4 -/
theorem freshB4 : True := by
  w_top off
  trivial
section
set_option Elab.async false
set_option maxRecDepth 100000
set_option maxHeartbeats 8000000
set_option linter.unusedVariables false
open PySem.SeqAt
def ltS (x y : Str) : Bool := decide (x.cps.toList < y.cps.toList)
def ltL : List Str → List Str → Bool
  | [], [] => false
  | [], _ :: _ => true
  | _ :: _, [] => false
  | x :: xs, y :: ys => if (x == y) = true then ltL xs ys else ltS x y
structure File where
  k : Int
  ns : List Str
  p : Str
def ltF (f g : File) : Bool := if (f.k == g.k) = true then (if (f.ns == g.ns) = true then (if (f.p == g.p) = true then false else ltS f.p g.p) else ltL f.ns g.ns) else decide (f.k < g.k)
theorem lexB_ltL (X Y : List Str) : ∀ k i, min X.length Y.length - i = k → i ≤ min X.length Y.length →
    lexB (fun j => X.getD j Str.empty == Y.getD j Str.empty) (fun j => ltS (X.getD j Str.empty) (Y.getD j Str.empty)) (decide (X.length < Y.length)) k i = ltL (X.drop i) (Y.drop i)
  | 0, i, hk, hi => by
    unfold lexB
    by_cases h1 : X.length ≤ i
    · rw [List.drop_of_length_le h1]
      by_cases h2 : Y.length ≤ i
      · rw [List.drop_of_length_le h2]
        unfold ltL
        exact decide_eq_false (by omega)
      · rw [List.drop_eq_getElem_cons (by omega : i < Y.length)]
        unfold ltL
        exact decide_eq_true (by omega)
    · have h2 : Y.length ≤ i := by omega
      rw [List.drop_of_length_le h2, List.drop_eq_getElem_cons (by omega : i < X.length)]
      unfold ltL
      exact decide_eq_false (by omega)
  | k + 1, i, hk, hi => by
    have h1 : i < X.length := by omega
    have h2 : i < Y.length := by omega
    unfold lexB
    rw [List.drop_eq_getElem_cons h1, List.drop_eq_getElem_cons h2]
    unfold ltL
    have e1 : X.getD i Str.empty = X[i] := by simp [h1]
    have e2 : Y.getD i Str.empty = Y[i] := by simp [h2]
    simp only [e1, e2]
    split
    · exact lexB_ltL X Y k (i + 1) (by omega) (by omega)
    · rfl
theorem all_beq (X Y : List Str) (h : X.length = Y.length) : (List.range X.length).all (fun j => X.getD j Str.empty == Y.getD j Str.empty) = (X == Y) := by
  rw [Bool.eq_iff_iff, List.all_eq_true, beq_iff_eq]
  constructor
  · intro hall
    refine List.ext_getElem h fun i h1 h2 => ?_
    have := hall i (List.mem_range.mpr h1)
    rw [beq_iff_eq] at this
    simpa [h1, h2] using this
  · rintro rfl j _
    exact beq_self_eq_true _
theorem tv_item {ps : List (Str × Tok)} {j : Nat} (h : j < (tv ps).toArray.size) : ∃ t, (tv ps).toArray[j] = .str ((ps.map (·.1)).getD j Str.empty) t := by
  have h' : j < ps.length := by simpa [tv] using h
  refine ⟨(ps[j]).2, ?_⟩
  simp [tv, h']
section
variable {A : Around} {s : Shared}
theorem eqAt_tv {ps qs : List (Str × Tok)} (j : Nat) (h1 : j < (tv ps).toArray.size) (h2 : j < (tv qs).toArray.size) :
    EqAt A s (tv ps).toArray[j] (tv qs).toArray[j] ((ps.map (·.1)).getD j Str.empty == (qs.map (·.1)).getD j Str.empty) := by
  obtain ⟨t, e1⟩ := tv_item h1
  obtain ⟨u, e2⟩ := tv_item h2
  rw [e1, e2]
  exact EqAt.str_str _ _ _ _
theorem size_tv (ps : List (Str × Tok)) : (tv ps).toArray.size = (ps.map (·.1)).length := by simp [tv]
theorem rcAt_texts {a b : Addr} {ps qs : List (Str × Tok)} (hl : s.heap.IsList a (tv ps).toArray) (hb : s.heap.IsList b (tv qs).toArray) (hu : A.units < cLine) :
    RcAt A s (.ref a) (.ref b) (ps.map (·.1) == qs.map (·.1)) := by
  by_cases hsz : (ps.map (·.1)).length = (qs.map (·.1)).length
  · rw [← all_beq _ _ hsz, ← size_tv ps]
    exact RcAt.lists hl hb (by rw [size_tv, size_tv]; exact hsz) hu fun j h1 h2 => eqAt_tv j h1 h2
  · have e : (ps.map (·.1) == qs.map (·.1)) = false := by
      rw [beq_eq_false_iff_ne]; intro h; exact hsz (congrArg List.length h)
    rw [e]
    exact RcAt.lists_lengths hl hb (by rw [size_tv, size_tv]; simpa using hsz) hu
theorem eqAt_texts {a b : Addr} {ps qs : List (Str × Tok)} (hl : s.heap.IsList a (tv ps).toArray) (hb : s.heap.IsList b (tv qs).toArray) (hu : A.units < cLine) :
    EqAt A s (.ref a) (.ref b) (ps.map (·.1) == qs.map (·.1)) := by
  by_cases h : a = b
  · subst h
    have e : ps.map (·.1) = qs.map (·.1) := by
      obtain ⟨o, ho, _, n, hd⟩ := hl
      obtain ⟨o', ho', _, n', hd'⟩ := hb
      rw [ho] at ho'
      cases ho'
      rw [hd] at hd'
      have h1 : tv ps = tv qs := by injection hd' with h1; have h9 := congrArg Array.toList h1; simpa using h9
      have h2 : (tv ps).map (fun v => match v with | .str x _ => x | _ => Str.empty) = ps.map (·.1) := by simp [tv, List.map_map, Function.comp_def]
      have h3 : (tv qs).map (fun v => match v with | .str x _ => x | _ => Str.empty) = qs.map (·.1) := by simp [tv, List.map_map, Function.comp_def]
      rw [← h2, ← h3, h1]
    rw [e, beq_self_eq_true]
    exact EqAt.same _
  · exact EqAt.of_refs h (rcAt_texts hl hb hu)
theorem ltAt_texts {a b : Addr} {ps qs : List (Str × Tok)} (hl : s.heap.IsList a (tv ps).toArray) (hb : s.heap.IsList b (tv qs).toArray) (hu : A.units < cLine) :
    OcAt .Lt A s (.ref a) (.ref b) (ltL (ps.map (·.1)) (qs.map (·.1))) := by
  have h := OcAt.lt_lists (e := fun j => (ps.map (·.1)).getD j Str.empty == (qs.map (·.1)).getD j Str.empty) (c := fun j => ltS ((ps.map (·.1)).getD j Str.empty) ((qs.map (·.1)).getD j Str.empty)) hl hb hu
    (fun j h1 h2 => eqAt_tv j h1 h2) (fun j h1 h2 _ => by
      obtain ⟨t, e1⟩ := tv_item h1
      obtain ⟨u, e2⟩ := tv_item h2
      rw [e1, e2]
      exact OcAt.lt_str)
  rw [size_tv, size_tv, lexB_ltL _ _ _ 0 (Nat.sub_zero _) (Nat.zero_le _)] at h
  exact h
end
def FileIn (news : List (Addr × Obj)) (v : Value) (f : File) : Prop :=
  ∃ a l tk tp ps n1 n2, v = .ref a ∧ (a, listOf #[.int f.k tk, .ref l, .str f.p tp] n1) ∈ news ∧ (l, listOf (tv ps).toArray n2) ∈ news ∧ ps.map (·.1) = f.ns
theorem FileIn.mono {news news' : List (Addr × Obj)} {v : Value} {f : File} (h : FileIn news v f) (hs : ∀ p ∈ news, p ∈ news') : FileIn news' v f := by
  obtain ⟨a, l, tk, tp, ps, n1, n2, e, h1, h2, h3⟩ := h
  exact ⟨a, l, tk, tp, ps, n1, n2, e, hs _ h1, hs _ h2, h3⟩
theorem file_lt {A : Around} {s : Shared} {h₀ : Heap} {L : Addr} {news : List (Addr × Obj)} {v v' : Value} {f g : File} (N : News h₀ L s.heap news) (hf : FileIn news v f) (hg : FileIn news v' g) (hu : A.units + 1 < cLine) :
    OcAt .Lt A s v v' (ltF f g) := by
  obtain ⟨a, l, tk, tp, ps, n1, n2, rfl, h1, h2, h3⟩ := hf
  obtain ⟨a', l', tk', tp', ps', n1', n2', rfl, h1', h2', h3'⟩ := hg
  have il : s.heap.IsList l (tv ps).toArray := ⟨_, (N _ h2).1, rfl, n2, rfl⟩
  have il' : s.heap.IsList l' (tv ps').toArray := ⟨_, (N _ h2').1, rfl, n2', rfl⟩
  have h := OcAt.lt_lists (A := A) (s := s) (l := a) (b := a') (items := #[.int f.k tk, .ref l, .str f.p tp]) (items2 := #[.int g.k tk', .ref l', .str g.p tp'])
    (e := fun j => match j with | 0 => f.k == g.k | 1 => f.ns == g.ns | _ => f.p == g.p) (c := fun j => match j with | 0 => decide (f.k < g.k) | 1 => ltL f.ns g.ns | _ => ltS f.p g.p)
    ⟨_, (N _ h1).1, rfl, n1, rfl⟩ ⟨_, (N _ h1').1, rfl, n1', rfl⟩ (by omega) (fun j hj1 hj2 => by
      have hj1' : j < 3 := hj1
      match j, hj1' with
      | 0, _ => exact EqAt.int_int _ _ _ _
      | 1, _ => exact h3 ▸ h3' ▸ eqAt_texts il il' (by show A.units + 1 < cLine; exact hu)
      | 2, _ => exact EqAt.str_str _ _ _ _) (fun j hj1 hj2 _ => by
      have hj1' : j < 3 := hj1
      match j, hj1' with
      | 0, _ => exact OcAt.lt_int
      | 1, _ => exact h3 ▸ h3' ▸ ltAt_texts il il' (by show A.units + 1 < cLine; exact hu)
      | 2, _ => exact OcAt.lt_str)
  exact h
end
/- part B5 -/
theorem freshB5 : True := by
  w_top off
  trivial
section
set_option Elab.async false
set_option maxRecDepth 100000
set_option maxHeartbeats 8000000
set_option linter.unusedVariables false
section
variable {prog : Program} {w : World} {A : Around} {E : Value → Shared → Prop} {s : Shared} {h₀ : Heap} {L D : Addr} {m : Str → Option Value} {news rest : List (Addr × Obj)} {vs : List Value} {n : Nat} {k : Int} {t : Tok} {v : Value}
theorem set_led {Q : Unit → Shared → Prop} (F : Fr h₀ L s.heap m) (N : News h₀ L s.heap ((D, listOf vs.toArray n) :: rest)) (hoff : ∀ p ∈ rest, p.1 ≠ D) (h0 : 0 ≤ k) (h1 : k < vs.length) (hfit : k < 2 ^ 63)
    (h : ∀ h', Fr h₀ L h' m → News h₀ L h' ((D, listOf (vs.set k.toNat v).toArray n) :: rest) → Q () { s with heap := h' }) :
    wpAny (model prog w) A (setItem (.ref D) (.int k t) v) Q E s := by
  have z := N _ (.head _)
  refine ki_setAt z.1 h0 hfit (by rw [List.size_toArray]; omega) (h _ (F.change (Heap.SameBut.update ..) z.2.1 z.2.2) (ki_turn (pre := []) _ N (fun _ hp => nomatch hp) hoff ?_ ?_))
  · show vs.toArray.setIfInBounds k.toNat v = (vs.set k.toNat v).toArray
    apply Array.toList_inj.mp
    simp
  · simp
theorem item_led {value slice : PySem.Expr} {Q : Value → Shared → Prop} (N : News h₀ L s.heap news) (hm : (D, listOf vs.toArray n) ∈ news) (h0 : 0 ≤ k) (hx : vs[k.toNat]? = some v) (hfit : k < 2 ^ 63) (h : Q v s)
    (hs : subscripted slice false (.ref D) (.int k t) = operate [.ref D, .int k t] (getItem (.ref D) (.int k t)) := by with_unfolding_all rfl) :
    wpAny (model prog w) A (subscriptTail value slice (.ref D) (.int k t)) Q E s :=
  have hl : s.heap.IsList D vs.toArray := PySem.IsL.isList (n := n) (N _ hm).1
  tail_any hl.typeIs slot_list_getitem.lookup (wpAny_getItem_list hl h0 hfit (by simpa using hx) h) hs
theorem cmp_led {op : CmpOp} {a b : Value} {c : Bool} {Q : Value → Shared → Prop} (ho : OcAt op A s a b c) (h : Q (.bool c) s) : wpAny (model prog w) A (richCompare op a b) Q E s := ho prog w E Q h
end
end
/- part A9 -/
theorem freshA9 : True := by
  w_top off
  trivial
section
set_option Elab.async false
set_option maxRecDepth 100000
set_option maxHeartbeats 8000000
set_option linter.unusedVariables false
local macro_rules | `(tactic| walk_at "subscriptTail") => `(tactic| (k_here; (with_reducible show wpAny _ _ (subscriptTail _ _ (Value.ref _) (Value.int _ _)) _ _ _); k_dflt (refine' item_led ?k1 ?k2 ?k3 ?k4 ?k5 ?_ ?k7; (case k1 => k_asm); (case k2 => exact .head _); (case k3 => omega); (case k4 => assumption); (case k5 => omega); (case k7 => with_unfolding_all rfl))))
local macro_rules | `(tactic| walk_at "setItem ref int") => `(tactic| (k_here; (with_reducible show wpAny _ _ (setItem (Value.ref _) (Value.int _ _) _) _ _ _); k_dflt (refine' set_led ?k1 ?k2 ?k3 ?k4 ?k5 ?k6 ?_; (case k1 => k_asm); (case k2 => k_asm); (case k3 => assumption); (case k4 => omega); (case k5 => ((simp only [List.length_map, List.length_set]); omega)); (case k6 => omega)); intro h' F' N'))
local macro_rules | `(tactic| walk_at "setItem ref int ref") => `(tactic| walk_at "setItem ref int")
local macro_rules | `(tactic| walk_at "compareOp Lt ref") => `(tactic| (k_here; (with_reducible show wpAny _ _ (compareOp CmpOp.Lt (Value.ref _) (Value.ref _)) _ _ _); (refine cmp_ofLt ?_); k_dflt (refine' cmp_led (file_lt ?k1 ?k2 ?k3 ?k4) ?_; (case k1 => exact cb_drop (by assumption) (fun p hp => .tail _ hp)); (case k2 => assumption); (case k3 => assumption); (case k4 => ktr_units))))
local macro_rules | `(tactic| walk_at "compareOp Lt ref ref") => `(tactic| walk_at "compareOp Lt ref")
theorem rsh1 {prog : Program} {w : World} {A : Around} {E : Value → Shared → Prop} {s : Shared} {p : Nat} {t u : Tok} {Q : Value → Shared → Prop} (hp : 0 < p) (h : Q (.int (((p - 1) / 2 : Nat) : Int) s.toks) { s with toks := s.toks + 1 }) :
    wpAny (model prog w) A (binaryOp .RShift (.int ((p : Int) - 1) t) (.int 1 u)) Q E s := by
  refine rshift_int (by decide) ?_
  have e : ((p : Int) - 1).fdiv (2 ^ Int.toNat 1) = (((p - 1) / 2 : Nat) : Int) := by
    show ((p : Int) - 1).fdiv 2 = _
    rw [Int.fdiv_eq_ediv_of_nonneg _ (by decide)]
    omega
  rw [e]; exact h
local macro_rules | `(tactic| walk_at "binaryOp RShift int int") => `(tactic| (with_reducible refine rsh1 ?kd1 ?_; (case kd1 => assumption)))
def sdF {α : Type} (lt : α → α → Bool) : Nat → List α → Nat → α → List α
  | 0, l, pos, x => l.set pos x
  | k + 1, l, pos, x => if 0 < pos then (if lt x (l.getD ((pos - 1) / 2) x) = true then sdF lt k (l.set pos (l.getD ((pos - 1) / 2) x)) ((pos - 1) / 2) x else l.set pos x) else l.set pos x
theorem sdF_succ {α : Type} (lt : α → α → Bool) (k : Nat) (l : List α) (pos : Nat) (x : α) : sdF lt (k + 1) l pos x = if 0 < pos then (if lt x (l.getD ((pos - 1) / 2) x) = true then sdF lt k (l.set pos (l.getD ((pos - 1) / 2) x)) ((pos - 1) / 2) x else l.set pos x) else l.set pos x := rfl
abbrev VF := Value × File
def ltVF (a b : VF) : Bool := ltF a.2 b.2
def VFs (news : List (Addr × Obj)) (es : List VF) : Prop := ∀ e ∈ es, FileIn news e.1 e.2
structure SdS where
  es : List VF
  pos : Nat
  tp : Tok
  nn : Nat
  k : Nat
theorem VFs_set {news : List (Addr × Obj)} {es : List VF} {i : Nat} {v : Value} {f : File} (h : VFs news es) (hf : FileIn news v f) : VFs news (es.set i (v, f)) := fun e he => by
  rcases List.mem_or_eq_of_mem_set he with h1 | rfl
  · exact h e h1
  · exact hf
theorem getv {es : List VF} {i : Nat} {x : VF} (h : es[i]? = some x) : (es.map (·.1))[((i : Nat) : Int).toNat]? = some x.1 := by
  rw [Int.toNat_natCast, List.getElem?_map, h]; rfl
section
variable {w : World} {mean : ExcName → Option Value} {mg mb : Str → Option Value}
  {dp un : Nat} {gd : Option (List Code)} {cn : Str} {cs : Scope} {a : Addr} {ccd : Value} {cl : List (Str × Addr)} {outer : List Env} {A₀ : Around} {base h₀ : Heap} {L : Addr} {m : Str → Option Value} {news : List (Addr × Obj)} {s : Shared} {Q E : Value → Shared → Prop}
theorem siftdown_spec {hp : Addr} {es : List VF} {nn pos : Nat} {t0 t1 : Tok} {x : VF} (hfs : VFs news es) (hlen : es.length ≤ 1000) (hpos : es[pos]? = some x) (hoff : ∀ p ∈ news, p.1 ≠ hp) (B : Below A₀ base outer h₀) (F : Fr h₀ L s.heap m) (X : (hd.heap_1 w.params).In h₀) (N : News h₀ L s.heap ((hp, listOf (es.map (·.1)).toArray nn) :: news)) (T : Top vw (looseW vw []) mean mg mb h₀) (hk : cs.kind = .function) (hdp : dp + 3 < recursionLimit) (hun : un + 30 < cLine)
   (hret : ∀ nn' h' tk', Fr h₀ L h' m → News h₀ L h' ((hp, listOf ((sdF ltVF pos es pos x).map (·.1)).toArray nn') :: news) → Q .none {s with heap := h', toks := tk'}) :
   wpAny (model Challenge.rw_pd0144_01.row.prog w) (ktrTop dp un gd cn cs L a ccd cl outer) (call (.ref 155) [.ref hp, .int 0 t0, .int (pos : Int) t1]) Q E s := by
  revert X; k_fill; intro X
  refine wpAny_call ?_
  k_dflt cell_enter
  have hpl : pos < es.length := (List.getElem?_eq_some_iff.mp hpos).1
  have hx0 := getv hpos
  have hxf : FileIn news x.1 x.2 := hfs x (List.mem_of_getElem? hpos)
  obtain ⟨xv, xf⟩ := x
  obtain ⟨xa, rfl⟩ : ∃ a, xv = .ref a := by obtain ⟨a, _, _, _, _, _, _, e, _⟩ := hxf; exact ⟨a, e⟩
  dsimp only at hx0 hxf
  k_steps
  unfold Hold
  rename Fr _ _ _ _ => F1
  rename News _ _ _ _ => N1
  refine ksw_while (σ := SdS) (fun c => (hp, listOf (c.es.map (·.1)).toArray c.nn) :: news) (fun c => [(Str.ofString "pos", .int (c.pos : Int) c.tp)]) (fun c => VFs news c.es ∧ c.es.length = es.length) [Str.ofString "parentpos", Str.ofString "parent"] (fun c => c.pos < es.length ∧ c.pos ≤ c.k ∧ sdF ltVF c.k c.es c.pos (.ref xa, xf) = sdF ltVF pos es pos (.ref xa, xf)) (fun c => c.pos) ⟨es, pos, t1, nn, pos⟩ F1 N1 ⟨hfs, rfl⟩
    (by intro p hp; rw [List.mem_singleton.mp hp]; rfl) ⟨hpl, Nat.le_refl _, rfl⟩ ?_
  clear F1 N1 hfs hpos hx0
  rintro ⟨es', pos', tp, nn', k⟩ u' h2 tk2 ⟨hfs', hlen'⟩ ⟨hpl', hk', hP⟩ F2 N2
  replace hfs' : VFs news es' := hfs'
  replace hlen' : es'.length = es.length := hlen'
  replace hpl' : pos' < es.length := hpl'
  replace hk' : pos' ≤ k := hk'
  replace hP : sdF ltVF k es' pos' (.ref xa, xf) = sdF ltVF pos es pos (.ref xa, xf) := hP
  dsimp only [kstB] at F2 N2
  (try dsimp only)
  by_cases hp0 : 0 < pos'
  · have hq : (pos' - 1) / 2 < es'.length := by omega
    obtain ⟨⟨pv, pf⟩, hpar⟩ : ∃ y, es'[(pos' - 1) / 2]? = some y := ⟨_, List.getElem?_eq_getElem hq⟩
    have hpf : FileIn news pv pf := hfs' (pv, pf) (List.mem_of_getElem? hpar)
    obtain ⟨pa, rfl⟩ : ∃ a, pv = .ref a := by obtain ⟨a, _, _, _, _, _, _, e, _⟩ := hpf; exact ⟨a, e⟩
    have hq0 := getv hpar
    dsimp only at hq0
    have hgd : es'.getD ((pos' - 1) / 2) (.ref xa, xf) = (.ref pa, pf) := by rw [List.getD_eq_getElem?_getD, hpar]; rfl
    cases k with
    | zero => omega
    | succ k =>
    rw [sdF_succ, if_pos hp0, hgd] at hP
    k_steps
    · rename (ltF xf pf = true) => hlt
      rw [if_pos (show ltVF (.ref xa, xf) (.ref pa, pf) = true from hlt)] at hP
      refine' ksw_end ⟨es'.set pos' (.ref pa, pf), (pos' - 1) / 2, ?tp, nn', k⟩ (by assumption) (by assumption) ?hn ?hf ?hk ?hr ?hp ?hm
      case hk => kst_all
      case hr => walk_at "mine_same2"
      case hn =>
        intro q hq
        dsimp only at hq
        rw [List.map_set] at hq
        exact hq
      case hf =>
        refine ⟨VFs_set hfs' hpf, ?_⟩
        dsimp only
        rw [List.length_set]; exact hlen'
      case hp => exact ⟨by dsimp only; omega, by dsimp only; omega, hP⟩
      case hm => dsimp only; omega
    · rename (ltF xf pf = false) => hlt
      rw [if_neg (show ¬ ltVF (.ref xa, xf) (.ref pa, pf) = true by rw [show ltVF (.ref xa, xf) (.ref pa, pf) = false from hlt]; exact Bool.false_ne_true)] at hP
      refine hret nn' _ _ (by assumption) ?_
      rw [← hP, List.map_set]
      assumption
  · obtain rfl : pos' = 0 := by omega
    k_steps
    have e : sdF ltVF k es' 0 (.ref xa, xf) = es'.set 0 (.ref xa, xf) := by cases k <;> rfl
    rw [e] at hP
    refine hret nn' _ _ (by assumption) ?_
    rw [← hP, List.map_set]
    assumption
end
end
/- part B6 -/
theorem freshB6 : True := by
  w_top off
  trivial
section
set_option Elab.async false
set_option maxRecDepth 100000
set_option maxHeartbeats 8000000
set_option linter.unusedVariables false
theorem len_led {prog : Program} {w : World} {A : Around} {E : Value → Shared → Prop} {s : Shared} {h₀ : Heap} {L D : Addr} {news : List (Addr × Obj)} {vs : List Value} {n k : Nat} {Q : Value → Shared → Prop} (N : News h₀ L s.heap news) (hm : (D, listOf vs.toArray n) ∈ news) (hk : vs.length = k) (hb : k ≤ 100000)
    (h : ∀ tk, Q (.int (k : Int) tk) { s with toks := tk + 1 }) : wpAny (model prog w) A (call (.builtin "len") [.ref D]) Q E s := by
  subst hk
  refine PyProof.Rows.len_list (PySem.IsL.isList (n := n) (N _ hm).1) (by rw [List.size_toArray]; omega) ?_
  have e : vs.toArray.size = vs.length := List.size_toArray ..
  rw [e]; exact h _
end
/- part A10 -/
theorem freshA10 : True := by
  w_top off
  trivial
section
set_option Elab.async false
set_option maxRecDepth 100000
set_option maxHeartbeats 8000000
set_option linter.unusedVariables false
local macro_rules | `(tactic| walk_at "subscriptTail") => `(tactic| (k_here; (with_reducible show wpAny _ _ (subscriptTail _ _ (Value.ref _) (Value.int _ _)) _ _ _); k_dflt (refine' item_led ?k1 ?k2 ?k3 ?k4 ?k5 ?_ ?k7; (case k1 => k_asm); (case k2 => exact .head _); (case k3 => omega); (case k4 => assumption); (case k5 => omega); (case k7 => with_unfolding_all rfl))))
local macro_rules | `(tactic| walk_at "setItem ref int") => `(tactic| (k_here; (with_reducible show wpAny _ _ (setItem (Value.ref _) (Value.int _ _) _) _ _ _); k_dflt (refine' set_led ?k1 ?k2 ?k3 ?k4 ?k5 ?k6 ?_; (case k1 => k_asm); (case k2 => k_asm); (case k3 => assumption); (case k4 => omega); (case k5 => ((simp only [List.length_map, List.length_set]); omega)); (case k6 => omega)); intro h' F' N'))
local macro_rules | `(tactic| walk_at "setItem ref int ref") => `(tactic| walk_at "setItem ref int")
local macro_rules | `(tactic| walk_at "compareOp Lt ref") => `(tactic| (k_here; (with_reducible show wpAny _ _ (compareOp CmpOp.Lt (Value.ref _) (Value.ref _)) _ _ _); (refine cmp_ofLt ?_); k_dflt (refine' cmp_led (file_lt ?k1 ?k2 ?k3 ?k4) ?_; (case k1 => exact cb_drop (by assumption) (fun p hp => .tail _ hp)); (case k2 => assumption); (case k3 => assumption); (case k4 => ktr_units))))
local macro_rules | `(tactic| walk_at "compareOp Lt ref ref") => `(tactic| walk_at "compareOp Lt ref")
local macro_rules | `(tactic| walk_at "call builtin:len") => `(tactic| (k_here; (with_reducible show wpAny _ _ (call (Value.builtin "len") [Value.ref _]) _ _ _); k_dflt (refine' len_led ?k1 ?k2 ?k3 ?k4 ?_; (case k1 => k_asm); (case k2 => first | exact .head _ | k_mem); (case k3 => first | exact List.length_map .. | exact tv_length _ | rfl); (case k4 => omega)); intro tk9; (try dsimp only)))
local macro_rules | `(tactic| walk_at "call ref") => `(tactic| (k_here; (with_reducible show wpAny _ _ (call (Value.ref 155) [Value.ref _, Value.int _ _, Value.int _ _]) _ _ _); k_dflt (refine' siftdown_spec ?p0 ?p1 ?p2 ?p3 ?k1 ?k2 ?k3 ?k4 ?k5 ?k6 ?k7 ?k8 ?_; (case k1 => k_asm); (case k2 => k_asm); (case k3 => k_asm); (case k4 => k_asm); (case k5 => k_asm); (case k6 => first | exact rfl | assumption); (case k7 => ktr_room); (case k8 => ktr_units); (case p0 => assumption); (case p1 => assumption); (case p2 => assumption); (case p3 => assumption)); intro nn' h' tk' F' N'; (try dsimp only); (try k_fold)))
def suL {α : Type} (lt : α → α → Bool) (d : α) : Nat → List α → Nat → List α × Nat
  | 0, l, pos => (l, pos)
  | k + 1, l, pos => if 2 * pos + 1 < l.length then
      (if 2 * pos + 2 < l.length ∧ lt (l.getD (2 * pos + 1) d) (l.getD (2 * pos + 2) d) = false then suL lt d k (l.set pos (l.getD (2 * pos + 2) d)) (2 * pos + 2)
       else suL lt d k (l.set pos (l.getD (2 * pos + 1) d)) (2 * pos + 1)) else (l, pos)
theorem suL_succ {α : Type} (lt : α → α → Bool) (d : α) (k : Nat) (l : List α) (pos : Nat) : suL lt d (k + 1) l pos = if 2 * pos + 1 < l.length then
      (if 2 * pos + 2 < l.length ∧ lt (l.getD (2 * pos + 1) d) (l.getD (2 * pos + 2) d) = false then suL lt d k (l.set pos (l.getD (2 * pos + 2) d)) (2 * pos + 2)
       else suL lt d k (l.set pos (l.getD (2 * pos + 1) d)) (2 * pos + 1)) else (l, pos) := rfl
def suF {α : Type} (lt : α → α → Bool) (l : List α) (x : α) : List α :=
  sdF lt (suL lt x l.length l 0).2 ((suL lt x l.length l 0).1.set (suL lt x l.length l 0).2 x) (suL lt x l.length l 0).2 x
theorem set_vf {es : List VF} {i : Nat} {v : Value} {f : File} : (es.map (·.1)).set ((i : Nat) : Int).toNat v = (es.set i (v, f)).map (·.1) := by rw [Int.toNat_natCast, List.map_set]
structure SuS where
  es : List VF
  pos : Int
  tp : Tok
  ch : Int
  tc : Tok
  nn : Nat
  k : Nat
section
variable {w : World} {mean : ExcName → Option Value} {mg mb : Str → Option Value}
  {dp un : Nat} {gd : Option (List Code)} {cn : Str} {cs : Scope} {a : Addr} {ccd : Value} {cl : List (Str × Addr)} {outer : List Env} {A₀ : Around} {base h₀ : Heap} {L : Addr} {m : Str → Option Value} {news : List (Addr × Obj)} {s : Shared} {Q E : Value → Shared → Prop}
theorem siftup_spec {hp : Addr} {es : List VF} {nn : Nat} {t0 : Tok} {x : VF} (hfs : VFs news es) (hlen : es.length ≤ 1000) (hpos : es[0]? = some x) (hoff : ∀ p ∈ news, p.1 ≠ hp) (B : Below A₀ base outer h₀) (F : Fr h₀ L s.heap m) (X : (hd.heap_1 w.params).In h₀) (N : News h₀ L s.heap ((hp, listOf (es.map (·.1)).toArray nn) :: news)) (T : Top vw (looseW vw []) mean mg mb h₀) (hk : cs.kind = .function) (hdp : dp + 5 < recursionLimit) (hun : un + 50 < cLine)
   (hret : ∀ nn' h' tk', Fr h₀ L h' m → News h₀ L h' ((hp, listOf ((suF ltVF es x).map (·.1)).toArray nn') :: news) → Q .none {s with heap := h', toks := tk'}) :
   wpAny (model Challenge.rw_pd0144_01.row.prog w) (ktrTop dp un gd cn cs L a ccd cl outer) (call (.ref 162) [.ref hp, .int 0 t0]) Q E s := by
  revert X; k_fill; intro X
  refine wpAny_call ?_
  k_dflt cell_enter
  have hpl : 0 < es.length := (List.getElem?_eq_some_iff.mp hpos).1
  have hx0 : (es.map (·.1))[(0 : Int).toNat]? = some x.1 := getv (i := 0) hpos
  have hxf : FileIn news x.1 x.2 := hfs x (List.mem_of_getElem? hpos)
  obtain ⟨xv, xf⟩ := x
  obtain ⟨xa, rfl⟩ : ∃ a, xv = .ref a := by obtain ⟨a, _, _, _, _, _, _, e, _⟩ := hxf; exact ⟨a, e⟩
  dsimp only at hx0 hxf
  k_steps
  unfold Hold
  rename Fr _ _ _ _ => F1
  rename News _ _ _ _ => N1
  obtain ⟨tp0, htp0⟩ : ∃ t, frMap F1 (Str.ofString "pos") = some (.int 0 t) := ⟨_, rfl⟩
  obtain ⟨tc0, htc0⟩ : ∃ t, frMap F1 (Str.ofString "childpos") = some (.int 1 t) := ⟨_, rfl⟩
  refine ksw_while (σ := SuS) (fun c => (hp, listOf (c.es.map (·.1)).toArray c.nn) :: news) (fun c => [(Str.ofString "pos", .int c.pos c.tp), (Str.ofString "childpos", .int c.ch c.tc)]) (fun c => VFs news c.es ∧ c.es.length = es.length) [Str.ofString "rightpos"] (fun c => ∃ n : Nat, c.pos = n ∧ c.ch = 2 * (n : Int) + 1 ∧ n < es.length ∧ es.length ≤ n + c.k ∧ suL ltVF (.ref xa, xf) c.k c.es n = suL ltVF (.ref xa, xf) es.length es 0) (fun c => es.length - c.pos.toNat) ⟨es, 0, tp0, 1, tc0, nn, es.length⟩ F1 N1 ⟨hfs, rfl⟩
    (by intro p hp; simp only [List.mem_cons, List.not_mem_nil, or_false] at hp; rcases hp with rfl | rfl; exact htp0; exact htc0) ⟨0, rfl, rfl, hpl, by dsimp only; omega, rfl⟩ ?_
  clear htp0 htc0 tp0 tc0 F1 N1 hfs hpos hx0
  rintro ⟨es', p', tp, c', tc, nn', k⟩ u' h2 tk2 ⟨hfs', hlen'⟩ ⟨n, e1, e2, hpl', hk', hP⟩ F2 N2
  replace e1 : p' = n := e1
  replace e2 : c' = 2 * (n : Int) + 1 := e2
  subst e1 e2
  replace hfs' : VFs news es' := hfs'
  replace hlen' : es'.length = es.length := hlen'
  replace hk' : es.length ≤ n + k := hk'
  replace hP : suL ltVF (.ref xa, xf) k es' n = suL ltVF (.ref xa, xf) es.length es 0 := hP
  dsimp only [kstB] at F2 N2
  (try dsimp only)
  by_cases hc0 : 2 * n + 1 < es.length
  · obtain ⟨⟨cv, cf⟩, hchd⟩ : ∃ y, es'[2 * n + 1]? = some y := ⟨_, List.getElem?_eq_getElem (by omega)⟩
    have hcf : FileIn news cv cf := hfs' (cv, cf) (List.mem_of_getElem? hchd)
    obtain ⟨ca, rfl⟩ : ∃ a, cv = .ref a := by obtain ⟨a, _, _, _, _, _, _, e, _⟩ := hcf; exact ⟨a, e⟩
    have hc1 : (es'.map (·.1))[(2 * (n : Int) + 1).toNat]? = some (.ref ca) := getv (i := 2 * n + 1) hchd
    have hgc : es'.getD (2 * n + 1) (.ref xa, xf) = (.ref ca, cf) := by rw [List.getD_eq_getElem?_getD, hchd]; rfl
    cases k with
    | zero => omega
    | succ k =>
    rw [suL_succ, if_pos (by omega), hgc] at hP
    by_cases hr0 : 2 * n + 2 < es.length
    · obtain ⟨⟨rv, rf⟩, hrd⟩ : ∃ y, es'[2 * n + 2]? = some y := ⟨_, List.getElem?_eq_getElem (by omega)⟩
      have hrf : FileIn news rv rf := hfs' (rv, rf) (List.mem_of_getElem? hrd)
      obtain ⟨ra, rfl⟩ : ∃ a, rv = .ref a := by obtain ⟨a, _, _, _, _, _, _, e, _⟩ := hrf; exact ⟨a, e⟩
      have hr1 : (es'.map (·.1))[(2 * (n : Int) + 1 + 1).toNat]? = some (.ref ra) := getv (i := 2 * n + 2) hrd
      have hgr : es'.getD (2 * n + 2) (.ref xa, xf) = (.ref ra, rf) := by rw [List.getD_eq_getElem?_getD, hrd]; rfl
      rw [hgr] at hP
      k_steps
      · rename (ltF cf rf = true) => hlt
        rw [if_neg (by rintro ⟨_, h9⟩; rw [show ltVF (.ref ca, cf) (.ref ra, rf) = true from hlt] at h9; cases h9)] at hP
        refine' ksw_end ⟨es'.set n (.ref ca, cf), ?pp1, ?tp1, ?cc1, ?tc1, nn', k⟩ (by assumption) (by assumption) ?hn ?hf ?hk ?hr ?hp ?hm
        case hk => kst_all
        case hr => walk_at "mine_same2"
        case hn =>
          intro q hq
          dsimp only at hq
          rw [List.map_set] at hq
          exact hq
        case hf =>
          refine ⟨VFs_set hfs' hcf, ?_⟩
          dsimp only
          rw [List.length_set]; exact hlen'
        case hp => exact ⟨2 * n + 1, by dsimp only; omega, by dsimp only; omega, by omega, by dsimp only; omega, hP⟩
        case hm => dsimp only; omega
      · rename (ltF cf rf = false) => hlt
        rw [if_pos ⟨by omega, hlt⟩] at hP
        refine' ksw_end ⟨es'.set n (.ref ra, rf), ?pp2, ?tp2, ?cc2, ?tc2, nn', k⟩ (by assumption) (by assumption) ?hn ?hf ?hk ?hr ?hp ?hm
        case hk => kst_all
        case hr => walk_at "mine_same2"
        case hn =>
          intro q hq
          dsimp only at hq
          rw [List.map_set] at hq
          exact hq
        case hf =>
          refine ⟨VFs_set hfs' hrf, ?_⟩
          dsimp only
          rw [List.length_set]; exact hlen'
        case hp => exact ⟨2 * n + 2, by dsimp only; omega, by dsimp only; omega, by omega, by dsimp only; omega, hP⟩
        case hm => dsimp only; omega
    · rw [if_neg (by omega)] at hP
      k_steps
      refine' ksw_end ⟨es'.set n (.ref ca, cf), ?pp3, ?tp3, ?cc3, ?tc3, nn', k⟩ (by assumption) (by assumption) ?hn ?hf ?hk ?hr ?hp ?hm
      case hk => kst_all
      case hr => walk_at "mine_same2"
      case hn =>
        intro q hq
        dsimp only at hq
        rw [List.map_set] at hq
        exact hq
      case hf =>
        refine ⟨VFs_set hfs' hcf, ?_⟩
        dsimp only
        rw [List.length_set]; exact hlen'
      case hp => exact ⟨2 * n + 1, by dsimp only; omega, by dsimp only; omega, by omega, by dsimp only; omega, hP⟩
      case hm => dsimp only; omega
  · have e : suL ltVF (.ref xa, xf) k es' n = (es', n) := by
      cases k with
      | zero => rfl
      | succ k => rw [suL_succ, if_neg (by omega)]
    rw [e] at hP
    have hsn : (es'.set n (.ref xa, xf))[n]? = some (.ref xa, xf) := by rw [List.getElem?_set_self (by omega)]
    have hfs2 : VFs news (es'.set n (.ref xa, xf)) := VFs_set hfs' hxf
    have hl2 : (es'.set n (.ref xa, xf)).length ≤ 1000 := by rw [List.length_set]; omega
    k_steps
    rename Fr _ _ _ _ => F3
    rename News _ _ _ _ => N3
    rw [set_vf (f := xf)] at N3
    k_steps
    refine' hret ?nnz _ _ (by assumption) ?hN
    case hN =>
      unfold suF
      rw [← hP]
      assumption
end
end
/- part B7 -/
theorem freshB7 : True := by
  w_top off
  trivial
section
set_option Elab.async false
set_option maxRecDepth 100000
set_option maxHeartbeats 8000000
set_option linter.unusedVariables false
section
variable {prog : Program} {w : World} {A : Around} {E : Value → Shared → Prop} {s : Shared} {h₀ : Heap} {L D : Addr} {m : Str → Option Value} {news rest : List (Addr × Obj)} {vs : List Value} {n k : Nat} {y : Value}
theorem pop_led {Q : Value → Shared → Prop} (F : Fr h₀ L s.heap m) (N : News h₀ L s.heap ((D, listOf (vs ++ [y]).toArray n) :: rest)) (hoff : ∀ p ∈ rest, p.1 ≠ D) (hz : vs.length ≤ 100000)
    (h : ∀ h', Fr h₀ L h' m → News h₀ L h' ((D, listOf vs.toArray (n + 1)) :: rest) → Q y { s with heap := h' }) : wpAny (model prog w) A (call (.builtin "list.pop") [.ref D]) Q E s :=
  kl_pop F N (p := vs) (y := y) (by rw [List.toList_toArray]; exact kpa_last y vs) (Upd.head hoff) (by rw [List.toList_toArray, List.length_append, sizeLine_eq]; simp only [List.length_cons, List.length_nil]; omega) h
theorem append_led {Q : Value → Shared → Prop} (F : Fr h₀ L s.heap m) (N : News h₀ L s.heap ((D, listOf vs.toArray n) :: rest)) (hoff : ∀ p ∈ rest, p.1 ≠ D) (hz : vs.length ≤ 100000)
    (h : ∀ h', Fr h₀ L h' m → News h₀ L h' ((D, listOf (vs ++ [y]).toArray (n + 1)) :: rest) → Q .none { s with heap := h' }) : wpAny (model prog w) A (call (.builtin "list.append") [.ref D, y]) Q E s :=
  append_K (hsz := by rw [List.size_toArray, sizeLine_eq]; omega) F N (Upd.head hoff) fun h' F' N' => h h' F' (by rw [List.push_toArray] at N'; exact N')
theorem truthy_led {Q : Bool → Shared → Prop} (N : News h₀ L s.heap news) (hm : (D, listOf vs.toArray n) ∈ news) (hz : vs.length ≤ 100000) (h : ∀ tk, Q (decide (0 < vs.length)) { s with toks := tk }) : wpAny (model prog w) A (truthy (.ref D)) Q E s :=
  wpAny_truthy_list (PySem.IsL.isList (n := n) (N _ hm).1) (by rw [List.size_toArray]; omega) (by
    have e : (!vs.toArray.isEmpty) = decide (0 < vs.length) := by cases vs <;> simp
    rw [e]; exact h _)
end
end
/- part A11 -/
theorem freshA11 : True := by
  w_top off
  trivial
section
set_option Elab.async false
set_option maxRecDepth 100000
set_option maxHeartbeats 8000000
set_option linter.unusedVariables false
local macro_rules | `(tactic| walk_at "subscriptTail") => `(tactic| (k_here; (with_reducible show wpAny _ _ (subscriptTail _ _ (Value.ref _) (Value.int _ _)) _ _ _); k_dflt (refine' item_led ?k1 ?k2 ?k3 ?k4 ?k5 ?_ ?k7; (case k1 => k_asm); (case k2 => exact .head _); (case k3 => omega); (case k4 => assumption); (case k5 => omega); (case k7 => with_unfolding_all rfl))))
local macro_rules | `(tactic| walk_at "setItem ref int") => `(tactic| (k_here; (with_reducible show wpAny _ _ (setItem (Value.ref _) (Value.int _ _) _) _ _ _); k_dflt (refine' set_led ?k1 ?k2 ?k3 ?k4 ?k5 ?k6 ?_; (case k1 => k_asm); (case k2 => k_asm); (case k3 => assumption); (case k4 => omega); (case k5 => ((simp only [List.length_map, List.length_set]); omega)); (case k6 => omega)); intro h' F' N'))
local macro_rules | `(tactic| walk_at "setItem ref int ref") => `(tactic| walk_at "setItem ref int")
local macro_rules | `(tactic| walk_at "compareOp Lt ref") => `(tactic| (k_here; (with_reducible show wpAny _ _ (compareOp CmpOp.Lt (Value.ref _) (Value.ref _)) _ _ _); (refine cmp_ofLt ?_); k_dflt (refine' cmp_led (file_lt ?k1 ?k2 ?k3 ?k4) ?_; (case k1 => exact cb_drop (by assumption) (fun p hp => .tail _ hp)); (case k2 => assumption); (case k3 => assumption); (case k4 => ktr_units))))
local macro_rules | `(tactic| walk_at "compareOp Lt ref ref") => `(tactic| walk_at "compareOp Lt ref")
local macro_rules | `(tactic| walk_at "call builtin:len") => `(tactic| (k_here; (with_reducible show wpAny _ _ (call (Value.builtin "len") [Value.ref _]) _ _ _); k_dflt (refine' len_led ?k1 ?k2 ?k3 ?k4 ?_; (case k1 => k_asm); (case k2 => first | exact .head _ | k_mem); (case k3 => first | assumption | exact List.length_map .. | exact tv_length _ | rfl); (case k4 => omega)); intro tk9; (try dsimp only)))
local macro_rules | `(tactic| walk_at "call builtin:list.pop") => `(tactic| (k_here; (with_reducible show wpAny _ _ (call (Value.builtin "list.pop") _) _ _ _); (try dsimp only); k_dflt (refine' pop_led ?k1 ?k2 ?k3 ?k4 ?_; (case k1 => k_asm); (case k2 => k_asm); (case k3 => assumption); (case k4 => walk_at "mine_len")); intro h' F' N'))
local macro_rules | `(tactic| walk_at "call builtin:list.append") => `(tactic| (k_here; (with_reducible show wpAny _ _ (call (Value.builtin "list.append") [Value.ref _, _]) _ _ _); k_dflt (refine' append_led ?k1 ?k2 ?k3 ?k4 ?_; (case k1 => k_asm); (case k2 => k_asm); (case k3 => assumption); (case k4 => walk_at "mine_len")); intro h' F' N'))
local macro_rules | `(tactic| walk_at "truthy ref") => `(tactic| (k_here; (with_reducible show wpAny _ _ (truthy (Value.ref _)) _ _ _); k_dflt (refine' truthy_led ?k1 ?k2 ?k3 ?_; (case k1 => k_asm); (case k2 => first | exact .head _ | k_mem); (case k3 => walk_at "mine_len")); intro tk9; (try dsimp only)))
local macro_rules | `(tactic| walk_at "mine_len") => `(tactic| (first | omega | ((simp only [List.length_append, List.length_cons, List.length_nil, List.length_map, List.length_set, tv_length] at *); omega)))
local macro_rules | `(tactic| walk_at "call ref") => `(tactic| (k_here; (with_reducible show wpAny _ _ (call (Value.ref 155) [Value.ref _, Value.int _ _, Value.int _ _]) _ _ _); k_dflt (refine' siftdown_spec ?p0 ?p1 ?p2 ?p3 ?k1 ?k2 ?k3 ?k4 ?k5 ?k6 ?k7 ?k8 ?_; (case k1 => k_asm); (case k2 => k_asm); (case k3 => k_asm); (case k4 => k_asm); (case k5 => k_asm); (case k6 => first | exact rfl | assumption); (case k7 => ktr_room); (case k8 => ktr_units); (case p0 => assumption); (case p1 => assumption); (case p2 => assumption); (case p3 => assumption)); intro nn' h' tk' F' N'; (try dsimp only); (try k_fold)))
local macro_rules | `(tactic| walk_at "call ref") => `(tactic| (k_here; (with_reducible show wpAny _ _ (call (Value.ref 162) [Value.ref _, Value.int _ _]) _ _ _); k_dflt (refine' siftup_spec ?p0 ?p1 ?p2 ?p3 ?k1 ?k2 ?k3 ?k4 ?k5 ?k6 ?k7 ?k8 ?_; (case k1 => k_asm); (case k2 => k_asm); (case k3 => k_asm); (case k4 => k_asm); (case k5 => k_asm); (case k6 => first | exact rfl | assumption); (case k7 => ktr_room); (case k8 => ktr_units); (case p0 => assumption); (case p1 => assumption); (case p2 => assumption); (case p3 => assumption)); intro nn' h' tk' F' N'; (try dsimp only); (try k_fold)))
theorem VFs_snoc {news : List (Addr × Obj)} {es : List VF} {v : Value} {f : File} (h : VFs news es) (hf : FileIn news v f) : VFs news (es ++ [(v, f)]) := fun e he => by
  rcases List.mem_append.mp he with h1 | h1
  · exact h e h1
  · rw [List.mem_singleton.mp h1]; exact hf
def popF {α : Type} (lt : α → α → Bool) (init : List α) (y : α) : List α × α :=
  match init with
  | [] => ([], y)
  | z :: r => (suF lt (y :: r) y, z)
section
variable {w : World} {mean : ExcName → Option Value} {mg mb : Str → Option Value}
  {dp un : Nat} {gd : Option (List Code)} {cn : Str} {cs : Scope} {a : Addr} {ccd : Value} {cl : List (Str × Addr)} {outer : List Env} {A₀ : Around} {base h₀ : Heap} {L : Addr} {m : Str → Option Value} {news : List (Addr × Obj)} {s : Shared} {Q E : Value → Shared → Prop}
theorem heappush_spec {hp xa : Addr} {es : List VF} {nn : Nat} {xf : File} (hfs : VFs news es) (hlen : es.length ≤ 100) (hxf : FileIn news (.ref xa) xf) (hoff : ∀ p ∈ news, p.1 ≠ hp) (B : Below A₀ base outer h₀) (F : Fr h₀ L s.heap m) (X : (hd.heap_1 w.params).In h₀) (N : News h₀ L s.heap ((hp, listOf (es.map (·.1)).toArray nn) :: news)) (T : Top vw (looseW vw []) mean mg mb h₀) (hk : cs.kind = .function) (hdp : dp + 5 < recursionLimit) (hun : un + 50 < cLine)
   (hret : ∀ nn' h' tk', Fr h₀ L h' m → News h₀ L h' ((hp, listOf ((sdF ltVF es.length (es ++ [(.ref xa, xf)]) es.length (.ref xa, xf)).map (·.1)).toArray nn') :: news) → Q .none {s with heap := h', toks := tk'}) :
   wpAny (model Challenge.rw_pd0144_01.row.prog w) (ktrTop dp un gd cn cs L a ccd cl outer) (call (.ref 141) [.ref hp, .ref xa]) Q E s := by
  revert X; k_fill; intro X
  refine wpAny_call ?_
  k_dflt cell_enter
  have hl9 : (es.map (·.1)).length ≤ 100 := by rw [List.length_map]; exact hlen
  k_steps
  rename Fr _ _ _ _ => F2
  rename News _ _ _ _ => N2
  have e1 : es.map (·.1) ++ [.ref xa] = (es ++ [((.ref xa, xf) : VF)]).map (·.1) := by rw [List.map_append]; rfl
  rw [e1] at N2
  have hlk : ((es ++ [((.ref xa, xf) : VF)]).map (·.1)).length = es.length + 1 := by rw [List.length_map, List.length_append]; rfl
  k_steps
  have e2 : ((es.length + 1 : Nat) : Int) - 1 = ((es.length : Nat) : Int) := by omega
  rw [e2]
  have hfs2 : VFs news (es ++ [((.ref xa, xf) : VF)]) := VFs_snoc hfs hxf
  have hl2 : (es ++ [((.ref xa, xf) : VF)]).length ≤ 1000 := by rw [List.length_append]; simp only [List.length_cons, List.length_nil]; omega
  have hsn : (es ++ [((.ref xa, xf) : VF)])[es.length]? = some (.ref xa, xf) := by rw [List.getElem?_append_right (Nat.le_refl _), Nat.sub_self]; rfl
  k_steps
  exact hret _ _ _ (by assumption) (by assumption)
theorem heappop_spec {hp : Addr} {es : List VF} {y : VF} {nn : Nat} (hfs : VFs news (es ++ [y])) (hlen : es.length ≤ 100) (hoff : ∀ p ∈ news, p.1 ≠ hp) (B : Below A₀ base outer h₀) (F : Fr h₀ L s.heap m) (X : (hd.heap_1 w.params).In h₀) (N : News h₀ L s.heap ((hp, listOf ((es ++ [y]).map (·.1)).toArray nn) :: news)) (T : Top vw (looseW vw []) mean mg mb h₀) (hk : cs.kind = .function) (hdp : dp + 7 < recursionLimit) (hun : un + 80 < cLine)
   (hret : ∀ nn' h' tk', Fr h₀ L h' m → News h₀ L h' ((hp, listOf ((popF ltVF es y).1.map (·.1)).toArray nn') :: news) → Q (popF ltVF es y).2.1 {s with heap := h', toks := tk'}) :
   wpAny (model Challenge.rw_pd0144_01.row.prog w) (ktrTop dp un gd cn cs L a ccd cl outer) (call (.ref 148) [.ref hp]) Q E s := by
  revert X; k_fill; intro X
  refine wpAny_call ?_
  k_dflt cell_enter
  obtain ⟨yv, yf⟩ := y
  have hyf : FileIn news yv yf := hfs (yv, yf) (List.mem_append.mpr (.inr (.head _)))
  obtain ⟨ya, rfl⟩ : ∃ a, yv = .ref a := by obtain ⟨a, _, _, _, _, _, _, e, _⟩ := hyf; exact ⟨a, e⟩
  have hl9 : (es.map (·.1)).length ≤ 100 := by rw [List.length_map]; exact hlen
  rename News _ _ _ _ => N9
  simp only [List.map_append, List.map_cons, List.map_nil] at N9
  cases es with
  | nil =>
    k_steps
    exact hret _ _ _ (by assumption) (by assumption)
  | cons z r =>
    obtain ⟨zv, zf⟩ := z
    have hzf : FileIn news zv zf := hfs (zv, zf) (.head _)
    obtain ⟨za, rfl⟩ : ∃ a, zv = .ref a := by obtain ⟨a, _, _, _, _, _, _, e, _⟩ := hzf; exact ⟨a, e⟩
    have hz0 : ((((.ref za, zf) : VF) :: r).map (·.1))[(0 : Int).toNat]? = some (.ref za) := rfl
    k_steps
    · rename Fr _ _ _ _ => F4
      rename News _ _ _ _ => N4
      have N5 : News _ _ _ ((hp, listOf (((((.ref ya, yf) : VF) :: r)).map (·.1)).toArray (nn + 1)) :: news) := N4
      clear N4
      have hfs2 : VFs news (((.ref ya, yf) : VF) :: r) := fun e he => by
        rcases List.mem_cons.mp he with rfl | he
        · exact hyf
        · exact hfs e (.tail _ (List.mem_append.mpr (.inl he)))
      have hl2 : (((.ref ya, yf) : VF) :: r).length ≤ 1000 := by simp only [List.length_cons] at hlen ⊢; omega
      have hsn : (((.ref ya, yf) : VF) :: r)[0]? = some (.ref ya, yf) := rfl
      k_steps
      exact hret _ _ _ (by assumption) (by assumption)
    · rename (¬ 0 < _) => hab
      exact absurd (Nat.succ_pos _) hab
end
end
/- part C1 -/
theorem freshC1 : True := by
  w_top off
  trivial
section
set_option Elab.async false
set_option maxRecDepth 100000
set_option maxHeartbeats 8000000
set_option linter.unusedVariables false
def digs : List Int := [0, 1, 2, 3]
def okFile (ns : List Str) : Bool := decide (readN 5 (headF (pathF ns)) (tailF (pathF ns)) [] = some ns) && decide ((pathF ns).length ≤ 1000) && decide (ns.length ≤ 5) && ns.all (fun x => decide (x.length ≤ 2)) && (aboveN 5 (pathF ns) [pathF ns]).isSome
theorem okFile_all : (digs.all fun a => digs.all fun b => digs.all fun c => okFile (namesF [a, b, c])) = true := by decide +kernel
end
/- part C2 -/
theorem freshC2 : True := by
  w_top off
  trivial
section
set_option Elab.async false
set_option maxRecDepth 100000
set_option maxHeartbeats 8000000
set_option linter.unusedVariables false
theorem dig_mem {f : Int} (h0 : 0 ≤ f) (h1 : f ≤ 3) : f ∈ digs := by
  rcases (by omega : f = 0 ∨ f = 1 ∨ f = 2 ∨ f = 3) with rfl | rfl | rfl | rfl <;> decide
theorem okFile_of (n : Int) : okFile (namesF (figs n)) = true := by
  have h := okFile_all
  rw [List.all_eq_true] at h
  have d : ∀ i (hi : i < 3), ((figs n)[i]'hi) ∈ digs := fun i hi => dig_mem (figs_lo (List.getElem?_eq_getElem hi)) (figs_hi (List.getElem?_eq_getElem hi))
  have h1 := h _ (d 0 (by decide))
  rw [List.all_eq_true] at h1
  have h2 := h1 _ (d 1 (by decide))
  rw [List.all_eq_true] at h2
  exact h2 _ (d 2 (by decide))
theorem okFile_read {n : Int} : readN 5 (headF (pathF (namesF (figs n)))) (tailF (pathF (namesF (figs n)))) [] = some (namesF (figs n)) := by
  have h := okFile_of n
  unfold okFile at h
  simp only [Bool.and_eq_true, decide_eq_true_eq] at h
  exact h.1.1.1.1
theorem okFile_len {n : Int} : (pathF (namesF (figs n))).length ≤ 1000 := by
  have h := okFile_of n
  unfold okFile at h
  simp only [Bool.and_eq_true, decide_eq_true_eq] at h
  exact h.1.1.1.2
theorem okFile_five {n : Int} : (namesF (figs n)).length ≤ 5 := by
  have h := okFile_of n
  unfold okFile at h
  simp only [Bool.and_eq_true, decide_eq_true_eq] at h
  exact h.1.1.2
theorem okFile_two {n : Int} : ∀ x ∈ namesF (figs n), x.length ≤ 2 := by
  have h := okFile_of n
  unfold okFile at h
  simp only [Bool.and_eq_true, decide_eq_true_eq, List.all_eq_true] at h
  exact h.1.2
section
variable {w : World} {mean : ExcName → Option Value} {mg mb : Str → Option Value}
  {dp un : Nat} {gd : Option (List Code)} {cn : Str} {cs : Scope} {a : Addr} {ccd : Value} {cl : List (Str × Addr)} {outer : List Env} {A₀ : Around} {base h₀ : Heap} {L : Addr} {m : Str → Option Value} {news : List (Addr × Obj)} {s : Shared} {Q E : Value → Shared → Prop}
theorem names2_spec {n : Int} {t : Tok} (hn0 : 0 ≤ n) (hn1 : n < 1000000) (B : Below A₀ base outer h₀) (F : Fr h₀ L s.heap m) (X : (hd.heap_1 w.params).In h₀) (N : News h₀ L s.heap news) (T : Top vw (looseW vw []) mean mg mb h₀) (hk : cs.kind = .function) (hdp : dp + 6 < recursionLimit) (hun : un + 60 < cLine)
   (hret : ∀ l ps h' tk', ps.map (·.1) = namesF (figs n) → ps.length ≤ 5 → (∀ p ∈ ps, p.1.length ≤ 2) → Fr h₀ L h' m → News h₀ L h' ((l, listOf (tv ps).toArray (tv ps).length) :: news) → (∀ p ∈ news, p.1 ≠ l) → Q (.ref l) {s with heap := h', toks := tk'}) :
   wpAny (model Challenge.rw_pd0144_01.row.prog w) (ktrTop dp un gd cn cs L a ccd cl outer) (call (.ref 174) [.int n t]) Q E s := by
  refine names_spec hn0 hn1 B F X N T hk hdp hun ?_
  intro l ps h' tk' hps F' N' off
  refine hret l ps h' tk' hps ?_ ?_ F' N' off
  · have h := okFile_five (n := n)
    rw [← hps, List.length_map] at h; exact h
  · intro p hp
    exact okFile_two (n := n) p.1 (by rw [← hps]; exact List.mem_map.mpr ⟨p, hp, rfl⟩)
theorem path2_spec {n : Int} {l : Addr} {ps : List (Str × Tok)} {nn : Nat} (hl : (l, listOf (tv ps).toArray nn) ∈ news) (hps : ps.map (·.1) = namesF (figs n)) (B : Below A₀ base outer h₀) (F : Fr h₀ L s.heap m) (X : (hd.heap_1 w.params).In h₀) (N : News h₀ L s.heap news) (T : Top vw (looseW vw []) mean mg mb h₀) (hk : cs.kind = .function) (hdp : dp + 6 < recursionLimit) (hun : un + 60 < cLine)
   (hret : ∀ x t' h' tk', x = pathF (namesF (figs n)) → x.length ≤ 1000 → readN 5 (headF x) (tailF x) [] = some (namesF (figs n)) → Fr h₀ L h' m → News h₀ L h' news → Q (.str x t') {s with heap := h', toks := tk'}) :
   wpAny (model Challenge.rw_pd0144_01.row.prog w) (ktrTop dp un gd cn cs L a ccd cl outer) (call (.ref 181) [.ref l]) Q E s := by
  refine path_spec hl ?_ ?_ B F X N T hk hdp hun ?_
  · have h := okFile_five (n := n)
    rw [← hps, List.length_map] at h; exact h
  · intro p hp
    exact okFile_two (n := n) p.1 (by rw [← hps]; exact List.mem_map.mpr ⟨p, hp, rfl⟩)
  · intro t' h' tk' F' N'
    rw [hps]
    exact hret _ t' h' tk' rfl okFile_len okFile_read F' N'
end
end
/- part D0 -/
theorem freshD0 : True := by
  w_top off
  trivial
section
set_option Elab.async false
set_option maxRecDepth 100000
set_option maxHeartbeats 8000000
set_option linter.unusedVariables false
def iv (ps : List (Int × Tok)) : List Value := ps.map fun p => .int p.1 p.2
theorem iv_get {ps : List (Int × Tok)} {i : Nat} {v : Value} (h : (iv ps)[i]? = some v) : ∃ p, ps[i]? = some p ∧ v = .int p.1 p.2 := by
  unfold iv at h
  rw [List.getElem?_map] at h
  cases hp : ps[i]? with
  | none => rw [hp] at h; cases h
  | some p => rw [hp] at h; cases h; exact ⟨p, rfl, rfl⟩
theorem iv_length (ps : List (Int × Tok)) : (iv ps).length = ps.length := List.length_map ..
def nsOf (n : Int) : List Str := namesF (figs (n.fdiv 3))
def fileOf (n : Int) : File := ⟨n.fmod 3, nsOf n, pathF (nsOf n)⟩
def pushF (es : List File) (f : File) : List File := sdF ltF es.length (es ++ [f]) es.length f
theorem sdF_map {α β : Type} (g : α → β) (lt : α → α → Bool) (lt' : β → β → Bool) (hg : ∀ a b, lt a b = lt' (g a) (g b)) : ∀ (k : Nat) (l : List α) (pos : Nat) (x : α), (sdF lt k l pos x).map g = sdF lt' k (l.map g) pos (g x)
  | 0, l, pos, x => by unfold sdF; rw [List.map_set]
  | k + 1, l, pos, x => by
    have e : (l.map g).getD ((pos - 1) / 2) (g x) = g (l.getD ((pos - 1) / 2) x) := by
      rw [List.getD_eq_getElem?_getD, List.getD_eq_getElem?_getD, List.getElem?_map]
      cases l[(pos - 1) / 2]? <;> rfl
    rw [sdF_succ, sdF_succ, e, ← hg]
    split
    · split
      · rw [sdF_map g lt lt' hg k, List.map_set]
      · rw [List.map_set]
    · rw [List.map_set]
def popStep (st : List File × List File) : List File × List File :=
  match st.2.getLast? with
  | none => st
  | some y => (st.1 ++ [(popF ltF st.2.dropLast y).2], (popF ltF st.2.dropLast y).1)
def popIt : Nat → List File → List File × List File
  | 0, l => ([], l)
  | i + 1, l => popStep (popIt i l)
structure PpS where
  es : List VF
  nn : Nat
  tl : List (Addr × Obj)
theorem sdF_mem {α : Type} (lt : α → α → Bool) : ∀ (k : Nat) (l : List α) (pos : Nat) (x : α) (e : α), e ∈ sdF lt k l pos x → e ∈ l ∨ e = x
  | 0, l, pos, x, e, h => List.mem_or_eq_of_mem_set h
  | k + 1, l, pos, x, e, h => by
    rw [sdF_succ] at h
    have hg : l.getD ((pos - 1) / 2) x ∈ l ∨ l.getD ((pos - 1) / 2) x = x := by
      rw [List.getD_eq_getElem?_getD]
      cases hq : l[(pos - 1) / 2]? with
      | none => exact .inr rfl
      | some y => exact .inl (List.mem_of_getElem? hq)
    split at h
    · split at h
      · rcases sdF_mem lt k _ _ _ _ h with h1 | h1
        · rcases List.mem_or_eq_of_mem_set h1 with h2 | h2
          · exact .inl h2
          · rw [h2]; exact hg
        · exact .inr h1
      · exact List.mem_or_eq_of_mem_set h
    · exact List.mem_or_eq_of_mem_set h
theorem sdF_length {α : Type} (lt : α → α → Bool) : ∀ (k : Nat) (l : List α) (pos : Nat) (x : α), (sdF lt k l pos x).length = l.length
  | 0, l, pos, x => List.length_set ..
  | k + 1, l, pos, x => by
    rw [sdF_succ]
    split
    · split
      · rw [sdF_length lt k, List.length_set]
      · exact List.length_set ..
    · exact List.length_set ..
theorem suL_mem {α : Type} (lt : α → α → Bool) (d : α) : ∀ (k : Nat) (l : List α) (pos : Nat) (e : α), e ∈ (suL lt d k l pos).1 → e ∈ l ∨ e = d
  | 0, l, pos, e, h => .inl h
  | k + 1, l, pos, e, h => by
    have hg : ∀ j, l.getD j d ∈ l ∨ l.getD j d = d := fun j => by
      rw [List.getD_eq_getElem?_getD]
      cases hq : l[j]? with
      | none => exact .inr rfl
      | some y => exact .inl (List.mem_of_getElem? hq)
    have hs : ∀ j, e ∈ l.set pos (l.getD j d) → e ∈ l ∨ e = d := fun j h1 => by
      rcases List.mem_or_eq_of_mem_set h1 with h2 | h2
      · exact .inl h2
      · rw [h2]; exact hg j
    rw [suL_succ] at h
    split at h
    · split at h
      · rcases suL_mem lt d k _ _ _ h with h1 | h1
        · exact hs _ h1
        · exact .inr h1
      · rcases suL_mem lt d k _ _ _ h with h1 | h1
        · exact hs _ h1
        · exact .inr h1
    · exact .inl h
theorem suL_length {α : Type} (lt : α → α → Bool) (d : α) : ∀ (k : Nat) (l : List α) (pos : Nat), (suL lt d k l pos).1.length = l.length
  | 0, l, pos => rfl
  | k + 1, l, pos => by
    rw [suL_succ]
    split
    · split
      · rw [suL_length lt d k, List.length_set]
      · rw [suL_length lt d k, List.length_set]
    · rfl
theorem suL_map {α β : Type} (g : α → β) (lt : α → α → Bool) (lt' : β → β → Bool) (hg : ∀ a b, lt a b = lt' (g a) (g b)) (d : α) : ∀ (k : Nat) (l : List α) (pos : Nat), ((suL lt d k l pos).1.map g, (suL lt d k l pos).2) = suL lt' (g d) k (l.map g) pos
  | 0, l, pos => rfl
  | k + 1, l, pos => by
    have e : ∀ j, (l.map g).getD j (g d) = g (l.getD j d) := fun j => by
      rw [List.getD_eq_getElem?_getD, List.getD_eq_getElem?_getD, List.getElem?_map]
      cases l[j]? <;> rfl
    rw [suL_succ, suL_succ, e, e, ← hg, List.length_map]
    split
    · split
      · rw [suL_map g lt lt' hg d k, List.map_set]
      · rw [suL_map g lt lt' hg d k, List.map_set]
    · rfl
theorem suF_map {α β : Type} (g : α → β) (lt : α → α → Bool) (lt' : β → β → Bool) (hg : ∀ a b, lt a b = lt' (g a) (g b)) (l : List α) (x : α) : (suF lt l x).map g = suF lt' (l.map g) (g x) := by
  unfold suF
  rw [sdF_map g lt lt' hg, List.map_set, List.length_map, ← suL_map g lt lt' hg x]
theorem suF_mem {α : Type} {lt : α → α → Bool} {l : List α} {x e : α} (h : e ∈ suF lt l x) : e ∈ l ∨ e = x := by
  unfold suF at h
  rcases sdF_mem lt _ _ _ _ _ h with h1 | h1
  · rcases List.mem_or_eq_of_mem_set h1 with h2 | h2
    · exact suL_mem lt x _ _ _ _ h2
    · exact .inr h2
  · exact .inr h1
theorem suF_length {α : Type} (lt : α → α → Bool) (l : List α) (x : α) : (suF lt l x).length = l.length := by
  unfold suF; rw [sdF_length, List.length_set, suL_length]
theorem popF_length {α : Type} (lt : α → α → Bool) (l : List α) (y : α) : (popF lt l y).1.length = l.length := by
  cases l with
  | nil => rfl
  | cons z r => show (suF lt (y :: r) y).length = _; rw [suF_length]; rfl
theorem popF_map1 (l : List VF) (y : VF) : (popF ltVF l y).1.map (·.2) = (popF ltF (l.map (·.2)) y.2).1 := by
  cases l with
  | nil => rfl
  | cons z r => exact suF_map (·.2) ltVF ltF (fun _ _ => rfl) (y :: r) y
theorem popF_map2 (l : List VF) (y : VF) : (popF ltVF l y).2.2 = (popF ltF (l.map (·.2)) y.2).2 := by
  cases l <;> rfl
theorem popF_VFs {news : List (Addr × Obj)} {l : List VF} {y : VF} (h : VFs news (l ++ [y])) : VFs news (popF ltVF l y).1 ∧ FileIn news (popF ltVF l y).2.1 (popF ltVF l y).2.2 := by
  have hy : FileIn news y.1 y.2 := h y (List.mem_append.mpr (.inr (.head _)))
  cases l with
  | nil => exact ⟨fun _ he => (nomatch he), hy⟩
  | cons z r =>
    refine ⟨fun e he => ?_, h z (.head _)⟩
    rcases suF_mem he with h1 | rfl
    · rcases List.mem_cons.mp h1 with rfl | h1
      · exact hy
      · exact h e (.tail _ (List.mem_append.mpr (.inl h1)))
    · exact hy
theorem VFs_sdF {news : List (Addr × Obj)} {k : Nat} {l : List VF} {pos : Nat} {x : VF} (h : VFs news l) (hx : FileIn news x.1 x.2) : VFs news (sdF ltVF k l pos x) := fun e he => by
  rcases sdF_mem ltVF k l pos x e he with h1 | rfl
  · exact h e h1
  · exact hx
theorem led_rot {h₀ h : Heap} {L : Addr} {p1 p2 p3 p4 q : Addr × Obj} {rest : List (Addr × Obj)} (N : News h₀ L h (p1 :: p2 :: p3 :: p4 :: q :: rest)) : News h₀ L h (q :: p4 :: p1 :: p2 :: rest) := cb_drop N fun p hp => by
  simp only [List.mem_cons] at hp ⊢
  rcases hp with h | h | h | h | h <;> simp [h]
theorem pp_turn {h₀ h' : Heap} {L : Addr} {m₀ m' : Str → Option Value} {stored : List Str} {x : Str} {I hp cA : Addr} {oI oc : Obj} {s₁ : Shared} {tk : Nat} {tl news : List (Addr × Obj)} {es' : List VF} {nn' : Nat} {q1 q2 : Addr × Obj} (P : PpS → Prop)
    (F : Fr h₀ L h' m') (N : News h₀ L h' ((hp, listOf (es'.map (·.1)).toArray nn') :: (I, oI) :: q1 :: q2 :: (cA, oc) :: (tl ++ news))) (h1 : hp ≠ I) (h2 : q1.1 ≠ I) (h3 : q2.1 ≠ I) (h4 : cA ≠ I) (h5 : ∀ p ∈ tl ++ news, p.1 ≠ I)
    (hr : ∀ z, z ≠ x → (∀ p ∈ ([] : List (Str × Value)), z ≠ p.1) → stored.contains z = false → m' z = m₀ z) (hP : P ⟨es', nn', q1 :: q2 :: tl⟩) :
    TurnE h₀ L (fun c : PpS => (hp, listOf (c.es.map (·.1)).toArray c.nn) :: (cA, oc) :: (c.tl ++ news)) (fun _ => []) stored x m₀ P I oI s₁ { s₁ with heap := h', toks := tk } := by
  refine turn_end ⟨es', nn', q1 :: q2 :: tl⟩ F N (fun p hp => ?_) (fun p hp => ?_) (fun _ hp => nomatch hp) hr hP
  · simp only [List.mem_cons, List.cons_append, List.mem_append] at hp ⊢
    rcases hp with h | h | h | h | h | h | h <;> simp [h]
  · simp only [List.mem_cons, List.cons_append] at hp
    rcases hp with rfl | rfl | rfl | rfl | hp
    · exact h1
    · exact h4
    · exact h2
    · exact h3
    · exact h5 p hp
theorem fdiv3 {n : Int} (h0 : 0 ≤ n) (h1 : n < 1000000) : 0 ≤ n.fdiv 3 ∧ n.fdiv 3 < 1000000 := by
  rw [Int.fdiv_eq_ediv_of_nonneg _ (by decide)]; omega
end
/- part A12 -/
theorem freshA12 : True := by
  w_top off
  trivial
section
set_option Elab.async false
set_option maxRecDepth 100000
set_option maxHeartbeats 8000000
set_option linter.unusedVariables false
local macro_rules | `(tactic| walk_at "call ref") => `(tactic| (k_here; (with_reducible show wpAny _ _ (call (Value.ref 174) [Value.int _ _]) _ _ _); k_dflt (refine' names2_spec ?p0 ?p1 ?k1 ?k2 ?k3 ?k4 ?k5 ?k6 ?k7 ?k8 ?_; (case k1 => k_asm); (case k2 => k_asm); (case k3 => k_asm); (case k4 => k_asm); (case k5 => k_asm); (case k6 => first | exact rfl | assumption); (case k7 => ktr_room); (case k8 => ktr_units); (case p0 => assumption); (case p1 => assumption)); intro l' ps' h' tk' hps' hpl' hpn' F' N' off'; (try dsimp only); (try k_fold)))
local macro_rules | `(tactic| walk_at "call ref") => `(tactic| (k_here; (with_reducible show wpAny _ _ (call (Value.ref 181) [Value.ref _]) _ _ _); k_dflt (refine' path2_spec ?p0 ?p1 ?k1 ?k2 ?k3 ?k4 ?k5 ?k6 ?k7 ?k8 ?_; (case k1 => k_asm); (case k2 => k_asm); (case k3 => k_asm); (case k4 => k_asm); (case k5 => k_asm); (case k6 => first | exact rfl | assumption); (case k7 => ktr_room); (case k8 => ktr_units); (case p0 => exact .head _); (case p1 => assumption)); intro x' t' h' tk' hx' hxl' hxr' F' N'; (try dsimp only); (try k_fold)))
local macro_rules | `(tactic| walk_at "call ref") => `(tactic| (k_here; (with_reducible show wpAny _ _ (call (Value.ref 188) [Value.str _ _]) _ _ _); k_dflt (refine' read_spec ?p0 ?p1 ?k1 ?k2 ?k3 ?k4 ?k5 ?k6 ?k7 ?k8 ?_; (case k1 => k_asm); (case k2 => k_asm); (case k3 => k_asm); (case k4 => k_asm); (case k5 => k_asm); (case k6 => first | exact rfl | assumption); (case k7 => ktr_room); (case k8 => ktr_units); (case p0 => assumption); (case p1 => assumption)); intro l' ps' nn' h' tk' hps' F' N' off'; (try dsimp only); (try k_fold)))
local macro_rules | `(tactic| walk_at "call ref") => `(tactic| (k_here; (with_reducible show wpAny _ _ (call (Value.ref 141) _) _ _ _); refine hold_ ?_))
local macro_rules | `(tactic| walk_at "call ref") => `(tactic| (k_here; (with_reducible show wpAny _ _ (call (Value.ref 148) _) _ _ _); refine hold_ ?_))
section
variable {w : World} {mean : ExcName → Option Value} {mg mb : Str → Option Value}
  {dp un : Nat} {gd : Option (List Code)} {cn : Str} {cs : Scope} {a : Addr} {ccd : Value} {cl : List (Str × Addr)} {outer : List Env} {A₀ : Around} {base h₀ : Heap} {L : Addr} {m : Str → Option Value} {news : List (Addr × Obj)} {s : Shared} {Q E : Value → Shared → Prop}
theorem popped_spec {nl : Addr} {ps : List (Int × Tok)} {n0 : Nat} (hl : (nl, listOf (iv ps).toArray n0) ∈ news) (hn : ps.length = 6) (hb : ∀ p ∈ ps, 0 ≤ p.1 ∧ p.1 < 1000000) (B : Below A₀ base outer h₀) (F : Fr h₀ L s.heap m) (X : (hd.heap_1 w.params).In h₀) (N : News h₀ L s.heap news) (T : Top vw (looseW vw []) mean mg mb h₀) (hk : cs.kind = .function) (hdp : dp + 20 < recursionLimit) (hun : un + 200 < cLine)
   (hret : ∀ r done nn' tl' h' tk', done.length = 6 → (done.map (·.2), ([] : List File)) = popIt 6 ((ps.map fun p => fileOf p.1).foldl pushF []) → VFs (tl' ++ news) done → Fr h₀ L h' m → News h₀ L h' ((r, listOf (done.map (·.1)).toArray nn') :: (tl' ++ news)) → (∀ p ∈ tl' ++ news, p.1 ≠ r) → Q (.ref r) {s with heap := h', toks := tk'}) :
   wpAny (model Challenge.rw_pd0144_01.row.prog w) (ktrTop dp un gd cn cs L a ccd cl outer) (call (.ref 200) [.ref nl]) Q E s := by
  revert X; k_fill; intro X
  refine wpAny_call ?_
  k_dflt (refine' code_defC ?k1 ?k2 ?k3 ?k4 ?k5 ?kA ?kF ?kK ?k6 ?k7 ?k8 ?k9 ?kB ?kD ?_ ?c2 ?c3 ?c4; (case kA => exact rfl); (case kF => exact rfl); (case kK => assumption); (case k1 => k_asm); (case k2 => k_asm); (case k3 => k_asm); (case k4 => k_asm); (case k5 => k_asm); (case k6 => k_is); (case k7 => k_is); (case k8 => ktr_room); (case k9 => exact BindsTo.of_eq rfl); (case kB => exact rfl); (case kD => decide +kernel); (case c2 => exact rfl); (case c3 => exact rfl); (case c4 => exact rfl); k_whole; intro g' L' h' tk' cells' FG' F' N' Y' B' X' T' l1; (try k_lt l1); k_cells Y'; (try simp only [List.cons_append, List.nil_append] at N'); (try dsimp only); (try k_lift B'); (try k_fold))
  have hcl : ∀ p ∈ news, p.1 ≠ L' + 1 := fun p hp => Nat.ne_of_lt (Nat.lt_succ_of_lt (l1 p hp))
  k_steps
  unfold Hold
  rename Fr _ _ _ _ => F1
  rename News _ _ _ _ => N1
  obtain ⟨hp, oc, hoc, N2, hcell⟩ : ∃ hp oc, oc.data = .cell (some (.ref hp)) ∧ News _ _ _ ((hp, listOf (([] : List VF).map (·.1)).toArray 0) :: (L' + 1, oc) :: ([] ++ news)) ∧ (L' + 1 < hp ∧ AllLt hp news) := ⟨_, _, by assumption, N1, by assumption⟩
  clear N1
  refine For_invVF F1 rfl rfl ?_
  walk1
  refine iter_listL (σ := PpS) (fun c => (hp, listOf (c.es.map (·.1)).toArray c.nn) :: (L' + 1, oc) :: (c.tl ++ news)) (fun _ => []) [Str.ofString "path"]
    (fun i c => VFs ((L' + 1, oc) :: (c.tl ++ news)) c.es ∧ c.es.length = i ∧ (∀ p ∈ c.tl, p.1 ≠ hp) ∧ c.es.map (·.2) = ((ps.take i).map fun p => fileOf p.1).foldl pushF []) ⟨[], 0, []⟩ rfl (fun c => .tail _ (.tail _ (List.mem_append.mpr (.inr hl)))) F1 N2 (fun _ hp => nomatch hp) ⟨fun _ he => (nomatch he), rfl, fun _ hp => (nomatch hp), rfl⟩ ?_ ?_
  · rintro i v ⟨es, nn, tl⟩ u' h2 tk2 I oI hv ⟨hfs, hesl, htl, hes⟩ hoff F2 N3
    replace hfs : VFs ((L' + 1, oc) :: (tl ++ news)) es := hfs
    replace hesl : es.length = i := hesl
    replace htl : ∀ p ∈ tl, p.1 ≠ hp := htl
    replace hes : es.map (·.2) = ((ps.take i).map fun p => fileOf p.1).foldl pushF [] := hes
    obtain ⟨⟨n, tn⟩, hq, rfl⟩ := iv_get hv
    have hi : i < ps.length := (List.getElem?_eq_some_iff.mp hq).1
    obtain ⟨hb0, hb1⟩ := hb _ (List.mem_of_getElem? hq)
    dsimp only at hb0 hb1
    obtain ⟨hd0, hd1⟩ := fdiv3 hb0 hb1
    clear F1 N2
    dsimp only [kstB] at F2 N3
    (try dsimp only)
    k_steps
    unfold Hold
    rename Fr _ _ _ _ => F5
    rename News _ _ _ _ => N5
    rename (_ = pathF _) => hx9
    subst hx9
    rename (_ ∧ _ ∧ _ ∧ _ ∧ _ ∧ AllLt _ (tl ++ news)) => hA
    rename (∀ p ∈ _ :: (I, oI) :: _, _ ≠ _) => hO
    have hhp : ∀ p ∈ tl ++ news, p.1 ≠ hp := fun p hp' => (List.mem_append.mp hp').elim (htl p) fun h => Nat.ne_of_lt (ktn_ltOf hcell.2 p h)
    have hIhp : hp ≠ I := hoff _ (.head _)
    refine heappush_spec (xf := fileOf n) ?v ?len ?file ?off (by assumption) F5 (by assumption) (led_rot N5) (by assumption) (by first | exact rfl | assumption) (by ktr_room) (by ktr_units) ?_
    case v => exact fun e he => (hfs e he).mono fun p hp => .tail _ (.tail _ (.tail _ hp))
    case len => omega
    case file => exact ⟨_, _, _, _, _, _, _, rfl, .tail _ (.head _), .tail _ (.tail _ (.head _)), by assumption⟩
    case off =>
      intro p hp'
      rcases List.mem_cons.mp hp' with rfl | hp'
      · exact Ne.symm hIhp
      rcases List.mem_cons.mp hp' with rfl | hp'
      · exact Nat.ne_of_gt hA.2.2.2.1
      rcases List.mem_cons.mp hp' with rfl | hp'
      · exact Ne.symm (hO _ (.tail _ (.tail _ (.head _))))
      rcases List.mem_cons.mp hp' with rfl | hp'
      · exact Nat.ne_of_lt hcell.1
      · exact hhp p hp'
    intro nn9 h9 tk9 F9 N9
    (try dsimp only)
    (try k_fold)
    k_steps
    refine pp_turn _ F9 N9 hIhp (Nat.ne_of_gt hA.2.2.1) (Ne.symm (hO _ (.tail _ (.head _)))) (hoff _ (.tail _ (.head _))) (fun p hp => hoff p (.tail _ (.tail _ hp))) (by walk_at "mine_same") ⟨?_, ?_, ?_, ?_⟩
    · refine VFs_sdF (VFs_snoc (fun e he => (hfs e he).mono fun p hp => ?_) ⟨_, _, _, _, _, _, _, rfl, .tail _ (.head _), .tail _ (.tail _ (.head _)), by assumption⟩) ⟨_, _, _, _, _, _, _, rfl, .tail _ (.head _), .tail _ (.tail _ (.head _)), by assumption⟩
      rcases List.mem_cons.mp hp with rfl | hp
      · exact .head _
      · exact .tail _ (.tail _ (.tail _ hp))
    · dsimp only
      rw [sdF_length, List.length_append, hesl]; rfl
    · intro p hp'
      rcases List.mem_cons.mp hp' with rfl | hp'
      · exact Nat.ne_of_gt hA.2.2.2.1
      rcases List.mem_cons.mp hp' with rfl | hp'
      · exact Ne.symm (hO _ (.tail _ (.tail _ (.head _))))
      · exact htl p hp'
    · dsimp only
      rw [sdF_map (·.2) ltVF ltF (fun _ _ => rfl), List.map_append, take_snoc hq, List.map_append, List.foldl_append, ← hes]
      show _ = pushF (es.map (·.2)) (fileOf n)
      unfold pushF
      rw [List.length_map]; rfl
  · rintro ⟨es, nn, tl⟩ u' h2 tk2 ⟨hfs, hesl, htl, hes⟩ F2 N3
    replace hfs : VFs ((L' + 1, oc) :: (tl ++ news)) es := hfs
    replace hesl : es.length = (iv ps).length := hesl
    replace htl : ∀ p ∈ tl, p.1 ≠ hp := htl
    replace hes : es.map (·.2) = ((ps.take (iv ps).length).map fun p => fileOf p.1).foldl pushF [] := hes
    rw [iv_length] at hesl hes
    rw [List.take_length] at hes
    clear F1 N2
    dsimp only [kstB] at F2 N3
    (try dsimp only)
    k_steps
    refine LCg.CompSrc.ledger rfl F2 N3 (.tail _ (.tail _ (List.mem_append.mpr (.inr hl)))) ?_ ?_
    · rw [List.size_toArray, iv_length, hn]; decide
    · intro g
      refine comp_ind (n := 6) (fun i vs nw => ∃ es' nn' done, nw = (hp, listOf (es'.map (·.1)).toArray nn') :: (L' + 1, oc) :: (tl ++ news) ∧ vs = done.map (·.1) ∧ VFs ((L' + 1, oc) :: (tl ++ news)) es' ∧ VFs ((L' + 1, oc) :: (tl ++ news)) done ∧ es'.length + i = 6 ∧ done.length = i ∧ (done.map (·.2), es'.map (·.2)) = popIt i (es.map (·.2))) ?_ ?_ _ 0 [] _ ?_ ⟨es, nn, [], rfl, rfl, hfs, (fun _ he => nomatch he), by omega, rfl, rfl⟩
      · rintro i vs nw hi ⟨es', nn', done, rfl, rfl, hfs', hdone, hlen', hdl, hpop⟩ v I oI C oC D m₂ h tk E' hv hN hm F4 N4 off ne
        clear F2 N3
        k_steps
        unfold Hold
        obtain ⟨init, y, rfl⟩ : ∃ init y, es' = init ++ [y] := by
          cases h9 : es'.getLast? with
          | none => rw [List.getLast?_eq_none_iff] at h9; subst h9; simp at hlen'; omega
          | some y => obtain ⟨ini, e9⟩ := List.getLast?_eq_some_iff.mp h9; exact ⟨ini, y, e9⟩
        have hil : init.length + 1 + i = 6 := by rw [List.length_append] at hlen'; exact hlen'
        have off3 := off.mem
        refine heappop_spec (news := (I, oI) :: (C, oC) :: (D, LCg.lst (done.map (·.1))) :: (L' + 1, oc) :: (tl ++ news)) (es := init) (y := y) (nn := nn') ?v ?len ?off (by assumption) F4 (by assumption) ?N (by assumption) (by first | exact rfl | assumption) (by ktr_room) (by ktr_units) ?_
        case v => exact fun e he => (hfs' e he).mono fun p hp => .tail _ (.tail _ (.tail _ hp))
        case len => omega
        case off =>
          intro p hp'
          have h0 := off3 _ (.head _)
          rcases List.mem_cons.mp hp' with rfl | hp'
          · exact Ne.symm h0.1
          rcases List.mem_cons.mp hp' with rfl | hp'
          · exact Ne.symm h0.2.1
          rcases List.mem_cons.mp hp' with rfl | hp'
          · exact Ne.symm h0.2.2
          rcases List.mem_cons.mp hp' with rfl | hp'
          · exact Nat.ne_of_lt hcell.1
          · exact (List.mem_append.mp hp').elim (htl p) fun h => Nat.ne_of_lt (ktn_ltOf hcell.2 p h)
        case N =>
          refine cb_drop N4 fun p hp => ?_
          simp only [List.mem_cons] at hp ⊢
          rcases hp with h | h | h | h | h | h <;> simp [h]
        intro nn9 h9 tk9 F9 N9
        refine LCg.CompEnd.intro F9 N9 ((hp, listOf ((popF ltVF init y).1.map (·.1)).toArray nn9) :: (L' + 1, oc) :: (tl ++ news)) (fun p hp => ?_) ⟨off.1, off.2⟩ (.inr ⟨_, .tail _ (.tail _ (List.mem_append.mpr (.inr hl))), rfl, _, rfl⟩) ⟨(popF ltVF init y).1, nn9, done ++ [(popF ltVF init y).2], rfl, ?_, ?_, ?_, ?_, ?_, ?_⟩
        · simp only [List.mem_cons] at hp ⊢
          rcases hp with h | h | h | h | h | h <;> simp [h]
        · rw [List.map_append]; rfl
        · exact (popF_VFs hfs').1
        · exact VFs_snoc (f := (popF ltVF init y).2.2) hdone (popF_VFs hfs').2
        · rw [popF_length]; omega
        · rw [List.length_append, hdl]; rfl
        · show _ = popStep (popIt i (es.map (·.2)))
          rw [← hpop]
          unfold popStep
          dsimp only
          rw [List.map_append, List.map_append]
          show _ = match (init.map (·.2) ++ [y.2]).getLast? with | none => _ | some z => _
          rw [List.getLast?_concat]
          dsimp only
          rw [show init.map (·.2) ++ [y].map (·.2) = init.map (·.2) ++ [y.2] from rfl, List.dropLast_concat, ← popF_map1, ← popF_map2]
          rfl
      · rintro vs nw ⟨es', nn', done, rfl, rfl, hfs', hdone, hlen', hdl, hpop⟩ D h tk F4 N4 off
        obtain rfl : es' = [] := List.eq_nil_of_length_eq_zero (by omega)
        clear F2 N3
        (try dsimp only)
        k_steps
        refine hret D done (done.map (·.1)).length ((L' + 1, oc) :: tl) _ _ hdl (by rw [← hes]; exact hpop) hdone (by assumption) (cb_drop (by assumption) (fun p hp => ?_)) (fun p hp => off1_mem off p (.tail _ hp))
        rcases List.mem_cons.mp hp with rfl | hp
        · exact .head _
        · exact .tail _ (.tail _ hp)
      · rw [List.size_toArray, iv_length, hn]
end
end
/- part R1 -/
theorem freshR1 : True := by
  w_top off
  trivial
section
set_option Elab.async false
set_option maxRecDepth 100000
set_option maxHeartbeats 8000000
set_option linter.unusedVariables false
theorem find_split {x : Str} : ∀ {ps : List (Str × Tok)}, x ∈ ps.map (·.1) → ∃ pre q post, ps = pre ++ q :: post ∧ q.1 = x ∧ x ∉ pre.map (·.1)
  | [], h => nomatch h
  | p :: ps, h => by
    by_cases e : p.1 = x
    · exact ⟨[], p, ps, rfl, e, fun h => nomatch h⟩
    · have h' : x ∈ ps.map (·.1) := by
        rcases List.mem_cons.mp h with h | h
        · exact absurd h.symm e
        · exact h
      obtain ⟨pre, q, post, rfl, hq, hn⟩ := find_split h'
      refine ⟨p :: pre, q, post, rfl, hq, fun hm => ?_⟩
      rcases List.mem_cons.mp hm with h | h
      · exact e h.symm
      · exact hn h
def isT (x : Str) (v : Value) : Bool := match v with | .str y _ => y == x | _ => false
section
variable {prog : Program} {w : World} {A : Around} {E : Value → Shared → Prop} {s : Shared} {h₀ : Heap} {L D : Addr} {m : Str → Option Value} {news rest : List (Addr × Obj)} {ps : List (Str × Tok)} {n k : Nat} {x : Str} {t : Tok}
theorem remove_led {Q : Value → Shared → Prop} (F : Fr h₀ L s.heap m) (N : News h₀ L s.heap ((D, listOf (tv ps).toArray n) :: rest)) (hoff : ∀ p ∈ rest, p.1 ≠ D) (hin : x ∈ ps.map (·.1)) (hz : ps.length ≤ 100000)
    (h : ∀ ps' h', ps'.map (·.1) = (ps.map (·.1)).erase x → Fr h₀ L h' m → News h₀ L h' ((D, listOf (tv ps').toArray (n + 1)) :: rest) → Q .none { s with heap := h' }) : wpAny (model prog w) A (call (.builtin "list.remove") [.ref D, .str x t]) Q E s := by
  obtain ⟨pre, q, post, rfl, hq, hn⟩ := find_split hin
  have z := N _ (.head _)
  have hsz : (tv (pre ++ q :: post)).toArray.size = pre.length + (post.length + 1) := by simp [tv]
  have hzz : (tv (pre ++ q :: post)).toArray.size ≤ sizeLine := by
    rw [List.size_toArray, tv_length]; exact Nat.le_trans hz (by decide)
  refine call_meets PySem.F.slot_list_remove ⟨_, z.1, rfl⟩ PySem.F.entry_list_remove (PySem.F.args_list_remove_2 _ _)
    (MeetsSeq.list_remove D (tv (pre ++ q :: post)).toArray n (.str x t) (isT x) (fun y hy => ?_) pre.length (by omega) ?_ (fun i hi hlt => ?_) hzz)
    ⟨z.1, h (pre ++ post) _ ?_ (F.change (Heap.SameBut.update ..) z.2.1 z.2.2) (ki_turn (pre := []) _ N (fun _ hp => nomatch hp) hoff ?_ ?_)⟩
  · have hy' : y ∈ tv (pre ++ q :: post) := by simpa using hy
    unfold tv at hy'
    obtain ⟨p, _, rfl⟩ := List.mem_map.mp hy'
    have e : isT x (.str p.1 p.2) = (p.1.cps.toList == x.cps.toList) := by
      show (p.1 == x) = _
      rw [Bool.eq_iff_iff, beq_iff_eq, beq_iff_eq]
      exact ⟨fun h => by rw [h], fun h => by
        have h2 := Array.toList_inj.mp h
        cases hp : p.1 with
        | mk a => cases hx : x with
          | mk b => rw [hp, hx] at h2; exact congrArg _ h2⟩
    rw [e]
    exact SeqRoads2.EqGives.str _ _ _ _
  · have e : (tv (pre ++ q :: post)).toArray[pre.length]'(by omega) = .str q.1 q.2 := by simp [tv]
    rw [e]
    show (q.1 == x) = true
    rw [hq]; exact beq_self_eq_true x
  · have hi' : i < pre.length := hlt
    have e : (tv (pre ++ q :: post)).toArray[i]'hi = .str (pre[i]).1 (pre[i]).2 := by simp [tv, List.getElem_append_left, hi']
    rw [e]
    show ((pre[i]).1 == x) = false
    rw [beq_eq_false_iff_ne]
    intro h9
    exact hn (List.mem_map.mpr ⟨pre[i], List.getElem_mem _, h9⟩)
  · rw [List.map_append, List.map_append, List.map_cons, hq, List.erase_append_right _ hn, List.erase_cons_head]
  · show (tv (pre ++ q :: post)).toArray.eraseIdxIfInBounds pre.length = (tv (pre ++ post)).toArray
    apply Array.toList_inj.mp
    rw [Array.toList_eraseIdxIfInBounds]
    simp [tv, List.eraseIdx_append_of_length_le]
  · have hne : (tv (pre ++ post)).toArray.size ≠ (tv (pre ++ q :: post)).toArray.size := by simp [tv]
    rw [if_neg (by simpa using hne)]
end
end
/- part U1 -/
theorem freshU1 : True := by
  w_top off
  trivial
section
set_option Elab.async false
set_option maxRecDepth 100000
set_option maxHeartbeats 8000000
set_option linter.unusedVariables false
local macro_rules | `(tactic| walk_at "exec Try") => `(tactic| (k_here; (with_reducible show wpAny _ _ (exec (Stmt.Try _ (_ :: _) [] [] _) _) _ _ _); refine try_calm ?_))
local macro_rules | `(tactic| walk_at "call builtin:len") => `(tactic| (k_here; (with_reducible show wpAny _ _ (call (Value.builtin "len") [Value.ref _]) _ _ _); k_dflt (refine' len_led ?k1 ?k2 ?k3 ?k4 ?_; (case k1 => k_asm); (case k2 => first | exact .head _ | k_mem); (case k3 => first | assumption | exact List.length_map .. | exact tv_length _ | rfl); (case k4 => omega)); intro tk9; (try dsimp only)))
local macro_rules | `(tactic| walk_at "call builtin:list.pop") => `(tactic| (k_here; (with_reducible show wpAny _ _ (call (Value.builtin "list.pop") _) _ _ _); (try dsimp only); k_dflt (refine' pop_led ?k1 ?k2 ?k3 ?k4 ?_; (case k1 => k_asm); (case k2 => k_asm); (case k3 => assumption); (case k4 => walk_at "mine_len")); intro h' F' N'))
local macro_rules | `(tactic| walk_at "call builtin:list.append") => `(tactic| (k_here; (with_reducible show wpAny _ _ (call (Value.builtin "list.append") [Value.ref _, _]) _ _ _); k_dflt (refine' append_led ?k1 ?k2 ?k3 ?k4 ?_; (case k1 => k_asm); (case k2 => k_asm); (case k3 => assumption); (case k4 => walk_at "mine_len")); intro h' F' N'))
local macro_rules | `(tactic| walk_at "truthy ref") => `(tactic| (k_here; (with_reducible show wpAny _ _ (truthy (Value.ref _)) _ _ _); k_dflt (refine' truthy_led ?k1 ?k2 ?k3 ?_; (case k1 => k_asm); (case k2 => first | exact .head _ | k_mem); (case k3 => walk_at "mine_len")); intro tk9; (try dsimp only)))
local macro_rules | `(tactic| walk_at "mine_len") => `(tactic| (first | omega | ((simp only [List.length_append, List.length_cons, List.length_nil, List.length_map, List.length_set, tv_length] at *); omega)))
local macro_rules | `(tactic| walk_at "call builtin:list.remove") => `(tactic| (k_here; refine hold_ ?_))
structure UnS where
  es : List (Str × Tok)
  as : List (Str × Tok)
  n1 : Nat
  n2 : Nat
def cnt (l : List (Str × Tok)) (z : Str) : Nat := (l.map (·.1)).count z
theorem cnt_snoc (l : List (Str × Tok)) (x : Str) (t : Tok) (z : Str) : cnt (l ++ [(x, t)]) z = cnt l z + if x == z then 1 else 0 := by
  unfold cnt; rw [List.map_append, List.count_append]; simp [List.count_cons]
theorem cnt_erase {l l' : List (Str × Tok)} {x : Str} (h : l'.map (·.1) = (l.map (·.1)).erase x) (hx : x ∈ l.map (·.1)) (z : Str) : cnt l z = cnt l' z + if x == z then 1 else 0 := by
  have h1 : cnt l' z = cnt l z - if x == z then 1 else 0 := by unfold cnt; rw [h, List.count_erase]
  have h2 : (x == z) = true → 1 ≤ cnt l z := fun e => by
    have e' : x = z := by simpa using e
    subst e'
    exact List.count_pos_iff.mpr hx
  rw [h1]
  cases e : (x == z) with
  | true => have := h2 e; simp; omega
  | false => simp
section
variable {w : World} {mean : ExcName → Option Value} {mg mb : Str → Option Value}
  {dp un : Nat} {gd : Option (List Code)} {cn : Str} {cs : Scope} {a : Addr} {ccd : Value} {cl : List (Str × Addr)} {outer : List Env} {A₀ : Around} {base h₀ : Heap} {L : Addr} {m : Str → Option Value} {news : List (Addr × Obj)} {s : Shared} {Q E : Value → Shared → Prop}
theorem unord_spec {ea aa : Addr} {es as : List (Str × Tok)} {n1 n2 : Nat} (hsub : ∀ z, cnt es z ≤ cnt as z) (hle : es.length ≤ 1000) (hla : as.length ≤ 1000) (hea : ea ≠ aa) (hoff1 : ∀ p ∈ news, p.1 ≠ ea) (hoff2 : ∀ p ∈ news, p.1 ≠ aa) (B : Below A₀ base outer h₀) (F : Fr h₀ L s.heap m) (X : (hd.heap_1 w.params).In h₀) (N : News h₀ L s.heap ((ea, listOf (tv es).toArray n1) :: (aa, listOf (tv as).toArray n2) :: news)) (T : Top vw (looseW vw []) mean mg mb h₀) (hk : cs.kind = .function) (hdp : dp + 3 < recursionLimit) (hun : un + 60 < cLine)
   (hret : ∀ q mi r n' h' tk', (∀ z, cnt r z + cnt es z = cnt as z) → r.length ≤ 1000 → Fr h₀ L h' m → News h₀ L h' ((q, ({ cls := .type "tuple", data := .seq #[.ref mi, .ref aa] } : Obj)) :: (mi, listOf #[] 0) :: (aa, listOf (tv r).toArray n') :: news) → Q (.ref q) {s with heap := h', toks := tk'}) :
   wpAny (model Challenge.rw_pd0144_01.row.prog w) (ktrTop dp un gd cn cs L a ccd cl outer) (call (.ref 169) [.ref ea, .ref aa]) Q E s := by
  revert X; k_fill; intro X
  refine wpAny_call ?_
  k_dflt cell_enter
  k_steps
  unfold Hold
  rename Fr _ _ _ _ => F1
  rename News _ _ _ _ => N1
  obtain ⟨mi, hmi, N2, hmi1⟩ : ∃ mi, frMap F1 (Str.ofString "missing") = some (.ref mi) ∧ News _ _ _ ((mi, listOf #[] 0) :: (ea, listOf (tv es).toArray n1) :: (aa, listOf (tv as).toArray n2) :: news) ∧ (ea < mi ∧ aa < mi ∧ AllLt mi news) := ⟨_, rfl, N1, by assumption⟩
  clear N1
  have hm1 : ∀ p ∈ (aa, listOf (tv as).toArray n2) :: (mi, listOf #[] 0) :: news, p.1 ≠ ea := fun p hp => by
    rcases List.mem_cons.mp hp with rfl | hp
    · exact Ne.symm hea
    · rcases List.mem_cons.mp hp with rfl | hp
      · exact Nat.ne_of_gt hmi1.1
      · exact hoff1 p hp

  refine ksw_while (σ := UnS) (fun c => (ea, listOf (tv c.es).toArray c.n1) :: (aa, listOf (tv c.as).toArray c.n2) :: (mi, listOf #[] 0) :: news) (fun _ => [(Str.ofString "missing", .ref mi)]) (fun _ => True) [Str.ofString "item"] (fun c => c.es.length ≤ 1000 ∧ c.as.length ≤ 1000 ∧ ∀ z, cnt c.as z + cnt es z = cnt as z + cnt c.es z) (fun c => c.es.length) ⟨es, as, n1, n2⟩ F1 (cb_drop N2 fun p hp => by
      simp only [List.mem_cons] at hp ⊢
      rcases hp with h | h | h | h <;> simp [h]) trivial
    (by intro p hp; rw [List.mem_singleton.mp hp]; exact hmi) ⟨hle, hla, fun z => rfl⟩ ?_
  clear hmi F1 N2
  rintro ⟨es', as', n1', n2'⟩ u' h2 tk2 _ ⟨hl1, hl2, hP⟩ F2 N2
  replace hl1 : es'.length ≤ 1000 := hl1
  replace hl2 : as'.length ≤ 1000 := hl2
  replace hP : ∀ z, cnt as' z + cnt es z = cnt as z + cnt es' z := hP
  dsimp only [kstB] at F2 N2
  (try dsimp only)
  rcases List.eq_nil_or_concat es' with rfl | ⟨init, ⟨x, tx⟩, rfl⟩
  · k_steps
    refine hret _ mi as' n2' _ _ (fun z => ?_) hl2 (by assumption) (cb_drop (by assumption) fun p hp => ?_)
    · have := hP z
      rw [show cnt [] z = 0 from rfl] at this
      omega
    · simp only [List.mem_cons] at hp ⊢
      rcases hp with h | h | h | h <;> simp [h]
  · rw [List.concat_eq_append] at *
    rw [tv_snoc] at N2
    have hl9 : init.length ≤ 1000 := by rw [List.length_append] at hl1; omega
    have hl8 : (tv init).length ≤ 1000 := by rw [tv_length]; exact hl9
    have hl7 : (tv init ++ [Value.str x tx]).length = init.length + 1 := by rw [List.length_append, tv_length]; rfl
    have hoffe : ∀ p ∈ (aa, listOf (tv as').toArray n2') :: (mi, listOf #[] 0) :: news, p.1 ≠ ea := fun p hp => by
      rcases List.mem_cons.mp hp with rfl | hp
      · exact Ne.symm hea
      · exact hm1 p (.tail _ hp)
    k_steps
    unfold Hold
    rename Fr _ _ _ _ => F3
    rename News _ _ _ _ => N3
    have hin : x ∈ as'.map (·.1) := by
      have h1 := hP x
      rw [cnt_snoc, beq_self_eq_true, if_pos rfl] at h1
      have h2 := hsub x
      exact List.count_pos_iff.mp (show 0 < cnt as' x by omega)
    k_dflt (refine remove_led (ps := as') (n := n2') (rest := (ea, listOf (tv init).toArray (n1' + 1)) :: (mi, listOf #[] 0) :: news) F3 (cb_drop N3 fun p hp => ?mem) (fun p hp => ?off) hin (by omega) ?_)
    case mem =>
      simp only [List.mem_cons] at hp ⊢
      rcases hp with h | h | h | h <;> simp [h]
    case off =>
      rcases List.mem_cons.mp hp with rfl | hp
      · exact hea
      · rcases List.mem_cons.mp hp with rfl | hp
        · exact Nat.ne_of_gt hmi1.2.1
        · exact hoff2 p hp
    intro as'' h5 has F5 N5
    clear F3 N3
    (try dsimp only)
    k_steps
    refine' ksw_end ⟨init, as'', n1' + 1, n2' + 1⟩ (by assumption) (by assumption) ?hn ?hf ?hk ?hr ?hp ?hm
    case hk => kst_all
    case hr => walk_at "mine_same2"
    case hn =>
      intro p hp
      simp only [List.mem_cons] at hp ⊢
      rcases hp with h | h | h | h <;> simp [h]
    case hf => trivial
    case hp =>
      refine ⟨hl9, ?_, fun z => ?_⟩
      · have h9 := congrArg List.length has
        rw [List.length_map, List.length_erase_of_mem hin, List.length_map] at h9
        dsimp only
        omega
      · have h1 := hP z
        have h2 := cnt_erase has hin z
        rw [cnt_snoc] at h1
        dsimp only
        omega
    case hm => dsimp only; rw [List.length_append]; exact Nat.lt_succ_self _
end
end
/- part M1 -/
theorem freshM1 : True := by
  w_top off
  trivial
section
set_option Elab.async false
set_option maxRecDepth 100000
set_option maxHeartbeats 8000000
set_option linter.unusedVariables false
theorem map_owner : Manifest.owners.lookup (String.ofList ['p', 'a', 'm'].reverse) = some Manifest.sig_map := by kernel_rfl
theorem slot_map_init : Slot "map" "__init__" "object.__init__" :=
  .of (owner := "object") (n := "__init__") (by rw [typeLookup_type, builtinLookup_eq_fast]; kernel_rfl) (by decide +kernel) (by decide +kernel) (by decide +kernel)
    (by first | exact .inl (by decide +kernel) | exact .inr (by decide +kernel)) (by rw [isSubtype_type]; kernel_rfl)
theorem slot_map_iter : Slot "map" "__iter__" "map.__iter__" :=
  .of (owner := "map") (n := "__iter__") (by rw [typeLookup_type, builtinLookup_eq_fast]; kernel_rfl) (by decide +kernel) (by decide +kernel) (by decide +kernel)
    (by first | exact .inl (by decide +kernel) | exact .inr (by decide +kernel)) (by rw [isSubtype_type]; kernel_rfl)
theorem slot_map_next : Slot "map" "__next__" "map.__next__" :=
  .of (owner := "map") (n := "__next__") (by rw [typeLookup_type, builtinLookup_eq_fast]; kernel_rfl) (by decide +kernel) (by decide +kernel) (by decide +kernel)
    (by first | exact .inl (by decide +kernel) | exact .inr (by decide +kernel)) (by rw [isSubtype_type]; kernel_rfl)
theorem args_map_iter (a : Value) : argsOk "map.__iter__" ⟨[a], []⟩ := by
  unfold argsOk; rw [signature?_of (id := "map.__iter__") (n := ['_', '_', 'r', 'e', 't', 'i', '_', '_']) (o := ['p', 'a', 'm']) (by kernel_rfl) map_owner]; kernel_rfl
theorem args_map_next (a : Value) : argsOk "map.__next__" ⟨[a], []⟩ := by
  unfold argsOk; rw [signature?_of (id := "map.__next__") (n := ['_', '_', 't', 'x', 'e', 'n', '_', '_']) (o := ['p', 'a', 'm']) (by kernel_rfl) map_owner]; kernel_rfl
theorem entry_map_next : entryFor table "map.__next__" = some Builtin.«map.__next__» := entryFor_of_tree (by kernel_rfl)
theorem entry_map_iter : entryFor table "map.__iter__" = some Builtin.«dict_keyiterator.__iter__» :=
  entryFor_alias (id' := "dict_keyiterator.__iter__") (by kernel_rfl) (by first | rfl | decide +kernel | (unfold String.splitOn; simp +decide [String.splitOnAux])) (by decide +kernel) (by kernel_rfl)
theorem mro_map : mroOf (.type "map") = pure [.type "map", .type "object"] := by rw [mroOf_type]; kernel_rfl
theorem lookup_map_new : typeLookup (.type "map") "__new__" = pure (some (.builtin "map.__new__")) := by rw [typeLookup_type, builtinLookup_eq_fast]; kernel_rfl
theorem called_map : TypeCalled "map" "map.__new__" "object.__init__" :=
  ⟨by decide +kernel, by decide +kernel, ⟨_, _, mro_map⟩, madeBy_type mro_map lookup_map_new (by decide +kernel), by decide +kernel, by rw [isSubtype_type]; kernel_rfl, slot_map_init⟩
theorem typeCall_map (a b : Value) : checkTypeCall "map" ⟨[a, b], []⟩ = pure () := by kernel_rfl
theorem newCall_map (a b : Value) : checkBuiltinCall "map.__new__" ⟨[.type "map", a, b], []⟩ = pure () := by kernel_rfl
theorem entry_map_new : entryFor table "map.__new__" = some Builtin.«map.__new__» := entryFor_of_tree (by kernel_rfl)
theorem sub_map : isSubtype (.type "map") (.type "map") = pure true := by rw [isSubtype_type]; kernel_rfl
theorem map_no_len : typeLookup (.type "map") "__len__" = pure none := by rw [typeLookup_type, builtinLookup_eq_fast]; kernel_rfl
theorem map_no_hint : typeLookup (.type "map") "__length_hint__" = pure none := by rw [typeLookup_type, builtinLookup_eq_fast]; kernel_rfl
abbrev mapO (T : Addr) (fn : Value) : Obj := { cls := .type "map", dict := none, data := .fields #[.ref T, fn], slots := #[] }
abbrev liO (l : Addr) (i : Nat) : Obj := { cls := .type "list_iterator", data := .fields #[.ref l, .int i 0] }
abbrev tupO (vs : Array Value) : Obj := { cls := .type "tuple", data := .seq vs }
abbrev mapH1 (h : Heap) (l : Addr) : Heap := h.push (liO l 0)
abbrev mapH2 (h : Heap) (l : Addr) : Heap := (mapH1 h l).push (tupO #[.ref h.objs.size])
abbrev mapH3 (h : Heap) (l : Addr) (fn : Value) : Heap := (mapH2 h l).push (mapO (mapH1 h l).objs.size fn)
theorem meets_map_new (fn : Value) (l : Addr) (xs : Array Value) :
    Meets (Builtin.«map.__new__» ⟨[.type "map", fn, .ref l], []⟩) (fun _ R s => s.heap.IsList l xs ∧
      R (.ok (.ret (.ref (mapH2 s.heap l).objs.size))) { s with heap := mapH3 s.heap l fn }) :=
  .of_wp fun prog w A R s h => by
    obtain ⟨hp, g, d, tk, os⟩ := s; obtain ⟨hl, h⟩ := h
    have hsub := sub_map
    have hL : Heap.IsList (Shared.heap ⟨hp, g, d, tk, os⟩) l xs := hl
    wp_walk using wpAny_pyIter_list hL
    exact ⟨_, rfl, h⟩
theorem call_map {prog : Program} {w : World} {A : Around} {E : Value → Shared → Prop} {s : Shared} {h₀ : Heap} {L l : Addr} {m : Str → Option Value} {news : List (Addr × Obj)} {fn : Value} {xs : Array Value} {n0 : Nat} {Q : Value → Shared → Prop}
    (F : Fr h₀ L s.heap m) (N : News h₀ L s.heap news) (hl : (l, listOf xs n0) ∈ news)
    (h : ∀ M T I h', T < M → I < T → (∀ p ∈ news, p.1 < I) → Fr h₀ L h' m → News h₀ L h' ((M, mapO T fn) :: (T, tupO #[.ref I]) :: (I, liO l 0) :: news) → Q (.ref M) { s with heap := h' }) :
    wpAny (model prog w) A (call (.type "map") [fn, .ref l]) Q E s := by
  have hls : s.heap.IsList l xs := ⟨_, (N _ hl).1, rfl, n0, rfl⟩
  refine callType_new called_map (by decide) (typeCall_map _ _) (newCall_map _ _) (fun obj => PySem.F.args_object_init_3 obj _ _) entry_map_new
    (meets_map_new fn l xs) ⟨hls, ?_⟩
  have z1 : (mapH1 s.heap l).objs.size = s.heap.objs.size + 1 := Heap.size_push ..
  have z2 : (mapH2 s.heap l).objs.size = s.heap.objs.size + 2 := by rw [Heap.size_push, z1]
  have g3 : (mapH3 s.heap l fn).get? (mapH2 s.heap l).objs.size = some _ := Heap.get?_push_size _ rfl
  have g2 : (mapH3 s.heap l fn).get? (mapH1 s.heap l).objs.size = some _ := Heap.get?_push_of_some _ (Heap.get?_push_size _ rfl)
  have g1 : (mapH3 s.heap l fn).get? s.heap.objs.size = some _ := Heap.get?_push_of_some _ (Heap.get?_push_of_some _ (Heap.get?_push_size _ rfl))
  have F1 : Fr h₀ L (mapH1 s.heap l) m := F.push _
  have F2 : Fr h₀ L (mapH2 s.heap l) m := F1.push _
  refine ⟨⟨_, g3, rfl⟩, h (mapH2 s.heap l).objs.size (mapH1 s.heap l).objs.size s.heap.objs.size _ (by show (mapH1 s.heap l).objs.size < (mapH2 s.heap l).objs.size; rw [z2, z1]; exact Nat.lt_succ_self _) (by show s.heap.objs.size < (mapH1 s.heap l).objs.size; rw [z1]; exact Nat.lt_succ_self _) (fun p hp => Heap.lt_size (N p hp).1) (F2.push _) fun p hp => ?_⟩
  rcases List.mem_cons.mp hp with rfl | hp
  · exact ⟨g3, Nat.ne_of_gt F2.ns.lt, next_is_new F2⟩
  rcases List.mem_cons.mp hp with rfl | hp
  · exact ⟨g2, Nat.ne_of_gt F1.ns.lt, next_is_new F1⟩
  rcases List.mem_cons.mp hp with rfl | hp
  · exact ⟨g1, Nat.ne_of_gt F.ns.lt, next_is_new F⟩
  · exact ⟨Heap.get?_push_of_some _ (Heap.get?_push_of_some _ (Heap.get?_push_of_some _ (N p hp).1)), (N p hp).2⟩
end
/- part M2 -/
theorem freshM2 : True := by
  w_top off
  trivial
section
set_option Elab.async false
set_option maxRecDepth 100000
set_option maxHeartbeats 8000000
set_option linter.unusedVariables false
set_option linter.unusedSimpArgs false
def MapEnd (h₀ : Heap) (L : Addr) (m : Str → Option Value) (news : List (Addr × Obj)) (g : Value → Prop) (s : Shared) (v : Value) (s' : Shared) : Prop :=
  ∃ h' tk', s' = { s with heap := h', toks := tk' } ∧ g v ∧ Fr h₀ L h' m ∧ News h₀ L h' news
theorem news_set {h₀ h h' : Heap} {L a : Addr} {o o' : Obj} {pre post : List (Addr × Obj)} (N : News h₀ L h (pre ++ (a, o) :: post)) (hs : Heap.SameBut a h h') (ho : h'.get? a = some o') (h1 : ∀ p ∈ pre, p.1 ≠ a) (h2 : ∀ p ∈ post, p.1 ≠ a) : News h₀ L h' (pre ++ (a, o') :: post) := fun p hp => by
  rcases List.mem_append.mp hp with hp | hp
  · exact ⟨(hs.2 p.1 (h1 p hp)).trans (N p (List.mem_append.mpr (.inl hp))).1, (N p (List.mem_append.mpr (.inl hp))).2⟩
  · rcases List.mem_cons.mp hp with rfl | hp
    · exact ⟨ho, (N _ (List.mem_append.mpr (.inr (.head _)))).2⟩
    · exact ⟨(hs.2 p.1 (h2 p hp)).trans (N p (List.mem_append.mpr (.inr (.tail _ hp)))).1, (N p (List.mem_append.mpr (.inr (.tail _ hp)))).2⟩
theorem liter_step {h h' : Heap} {it l : Addr} {i j : Nat} (h0 : h.get? it = some (liO l i)) (hs : h.get? it = some (liO l i) → True) (h1 : h'.IsListIter it l j) (h2 : ∃ o, h'.get? it = some o ∧ o.dict = none ∧ o.slots = #[]) : h'.get? it = some (liO l j) := by
  obtain ⟨o, e, c, d⟩ := h1
  obtain ⟨o', e', c', d'⟩ := h2
  rw [e] at e'
  cases e'
  rw [e]
  obtain ⟨oc, od, oda, os⟩ := o
  simp only at c d c' d'
  subst c d c' d'
  rfl
section
variable {prog : Program} {w : World} {A : Around} {E : Value → Shared → Prop} {s : Shared} {h₀ : Heap} {L l M T I S : Addr} {m : Str → Option Value} {news : List (Addr × Obj)} {fn : Value} {xs : Array Value} {n0 i : Nat}
theorem next_list_item {x : Value} {Q : Value → Shared → Prop} (hit : s.heap.get? I = some (liO l i)) (hl : s.heap.get? l = some (listOf xs n0)) (hx : xs[i]? = some x)
    (hQ : ∀ h', h'.get? I = some (liO l (i + 1)) → Heap.SameBut I s.heap h' → Q x { s with heap := h' }) :
    wpAny (model prog w) A (Builtin.SmallTypes.nextOf (.ref I)) Q E s := by
  have hti : s.TypeIs (.ref I) "list_iterator" := ⟨_, hit, rfl⟩
  unfold Builtin.SmallTypes.nextOf
  refine wpAny_bind (wpAny_callSpecial?_slot (name := Str.ofString "__next__") hti slot_listiter_next
    (wpAny_call_entry slot_listiter_next hti entry_listiter_next ?_ (args_listiter_next _)))
  show wpAny _ _ (field (.ref I) 0 >>= _) _ _ s
  refine wpAny_bind (wpAny_field hit rfl (x := .ref l) rfl ?_)
  show wpAny _ _ (if (Value.ref l == Value.none) = true then _ else _) _ _ s
  rw [if_neg (show ¬ ((Value.ref l == Value.none) = true) from Bool.false_ne_true)]
  show wpAny _ _ (field (.ref I) 1 >>= _) _ _ s
  refine wpAny_bind (wpAny_field hit rfl (x := .int i 0) rfl ?_)
  show wpAny _ _ (seqItems? (.ref l) >>= _) _ _ s
  refine wpAny_bind (wpAny_seqItems hl rfl ?_)
  simp only [Int.toNat_natCast, hx]
  refine wpAny_bind (wpAny_setField_rec hit (by simp) fun h' hz hs => wpAny_pure ⟨x, rfl, wpAny_pure (hQ _ ?_ hs)⟩)
  rw [hz]
  simp [rawInt]
theorem map_next_item {x : Value} {g : Value → Prop} {Q : Option Value → Shared → Prop} (F : Fr h₀ L s.heap m) (N : News h₀ L s.heap ((M, mapO T fn) :: (T, tupO #[.ref I]) :: (I, liO l i) :: news)) (hIT : I < T) (hTM : T < M) (hn : ∀ p ∈ news, p.1 ≠ I)
    (hl : (l, listOf xs n0) ∈ news) (hx : xs[i]? = some x)
    (turn : ∀ h', Fr h₀ L h' m → News h₀ L h' ((M, mapO T fn) :: (T, tupO #[.ref I]) :: (I, liO l (i + 1)) :: news) →
      wpAny (model prog w) A.in1 (call fn [x]) (fun v s' => MapEnd h₀ L m ((M, mapO T fn) :: (T, tupO #[.ref I]) :: (I, liO l (i + 1)) :: news) g { s with heap := h' } v s') (fun _ _ => False) { s with heap := h' })
    (hQ : ∀ v h' tk', g v → Fr h₀ L h' m → News h₀ L h' ((M, mapO T fn) :: (T, tupO #[.ref I]) :: (I, liO l (i + 1)) :: news) → Q (some v) { s with heap := h', toks := tk' }) :
    wpAny (model prog w) A (pyNext (.ref M)) Q E s := by
  have nM := N _ (.head _)
  have nT := N _ (.tail _ (.head _))
  have nI := N _ (.tail _ (.tail _ (.head _)))
  have nl := N _ (.tail _ (.tail _ (.tail _ hl)))
  have hT : s.TypeIs (.ref M) "map" := ⟨_, nM.1, rfl⟩
  unfold pyNext
  refine wpAny_bind (wpAny_attempt (wpAny_callSpecial?_slot (name := Str.ofString "__next__") hT slot_map_next
    (wpAny_call_entry slot_map_next hT entry_map_next ?_ (args_map_next _))))
  show wpAny _ _ (field (.ref M) 0 >>= _) _ _ _
  refine wpAny_bind (wpAny_field nM.1 rfl (x := .ref T) rfl ?_)
  refine wpAny_bind (wpAny_seqItems nT.1 rfl ?_)
  simp only [List.forIn_cons, List.forIn_nil, Array.forIn_toList.symm]
  refine wpAny_bind (wpAny_bind (wpAny_bind (wpAny_holding (next_list_item nI.1 nl.1 hx fun h1 hi1 hs1 => ?_))))
  refine wpAny_pure (wpAny_pure ?_)
  have F1 : Fr h₀ L h1 m := ksk_fr F hs1 nI.2.1 nI.2.2
  have N1 : News h₀ L h1 ((M, mapO T fn) :: (T, tupO #[.ref I]) :: (I, liO l (i + 1)) :: news) :=
    news_set (pre := [(M, mapO T fn), (T, tupO #[.ref I])]) N hs1 hi1 (fun p hp => by
      rcases List.mem_cons.mp hp with rfl | hp
      · exact Nat.ne_of_gt (Nat.lt_trans hIT hTM)
      · rw [List.mem_singleton.mp hp]; exact Nat.ne_of_gt hIT) hn
  have nM1 := N1 _ (.head _)
  show wpAny _ _ (field (.ref M) 1 >>= _) _ _ _
  refine wpAny_bind (wpAny_field nM1.1 rfl (x := fn) rfl ?_)
  show wpAny _ _ (holding [x] (call fn [x]) >>= _) _ _ _
  refine wpAny_bind (wpAny_holding (wpAny_mono (turn h1 F1 N1) (fun v s' q => ?_) fun _ _ e => e.elim))
  obtain ⟨h2, tk2, rfl, hg, F2, N2⟩ := q
  exact wpAny_bind (wpAny_letGo (wpAny_pure ⟨v, rfl, wpAny_pure (hQ v h2 tk2 hg F2 N2)⟩))
theorem map_next_end {Q : Option Value → Shared → Prop} (hh : A.handled = none) (F : Fr h₀ L s.heap m) (N : News h₀ L s.heap ((M, mapO T fn) :: (T, tupO #[.ref I]) :: (I, liO l i) :: news)) (hn : ∀ p ∈ news, p.1 ≠ I)
    (hl : (l, listOf xs n0) ∈ news) (hx : xs[i]? = none)
    (hQ : ∀ h' tk', Fr h₀ L h' m → News h₀ L h' news → Q none { s with heap := h', toks := tk' }) :
    wpAny (model prog w) A (pyNext (.ref M)) Q E s := by
  have nM := N _ (.head _)
  have nT := N _ (.tail _ (.head _))
  have nI := N _ (.tail _ (.tail _ (.head _)))
  have nl := N _ (.tail _ (.tail _ (.tail _ hl)))
  have hT : s.TypeIs (.ref M) "map" := ⟨_, nM.1, rfl⟩
  unfold pyNext
  refine wpAny_bind (wpAny_attempt (wpAny_callSpecial?_slot (name := Str.ofString "__next__") hT slot_map_next
    (wpAny_call_entry slot_map_next hT entry_map_next ?_ (args_map_next _))))
  show wpAny _ _ (field (.ref M) 0 >>= _) _ _ _
  refine wpAny_bind (wpAny_field nM.1 rfl (x := .ref T) rfl ?_)
  refine wpAny_bind (wpAny_seqItems nT.1 rfl ?_)
  simp only [List.forIn_cons, List.forIn_nil, Array.forIn_toList.symm]
  refine wpAny_bind (wpAny_bind (wpAny_bind (wpAny_holding (wpAny_nextOf_list_end hh (it := I) (l := l) (i := i) (items := xs) ⟨_, nI.1, rfl, rfl⟩ ⟨_, nl.1, rfl, n0, rfl⟩ hx fun h1 e hs1 he => ?_))))
  obtain ⟨o, ho, hc⟩ := he
  refine wpAny_bind (wpAny_isInstance (T := "StopIteration") (b := true) ⟨o, ho, hc⟩ isSubtype_stop ?_)
  have hk : ∀ b o, b ∉ [I] → s.heap.get? b = some o → h1.get? b = some o := fun b o hb e => hs1 b o (fun x => hb (List.mem_singleton.mpr x)) e
  exact wpAny_pure (hQ h1 _ (kmk_fr F hk nI.2.1 nI.2.2) (kmk_news (fun p hp => N p (.tail _ (.tail _ (.tail _ hp)))) hk hn))
end
end
/- part M3 -/
theorem freshM3 : True := by
  w_top off
  trivial
section
set_option Elab.async false
set_option maxRecDepth 100000
set_option maxHeartbeats 8000000
set_option linter.unusedVariables false
section
variable {prog : Program} {w : World} {A : Around} {E : Value → Shared → Prop} {s : Shared} {h₀ : Heap} {L l M T I S : Addr} {m : Str → Option Value} {news : List (Addr × Obj)} {fn : Value} {xs : Array Value} {n0 i : Nat}
abbrev mapLed (news : List (Addr × Obj)) (M T I l : Addr) (fn : Value) (i : Nat) : List (Addr × Obj) := (M, mapO T fn) :: (T, tupO #[.ref I]) :: (I, liO l i) :: news
theorem news_S {h₀ h h' : Heap} {L S : Addr} {o : Obj} {rest : List (Addr × Obj)} (N : News h₀ L h rest) (hs : Heap.SameBut S h h') (ho : h'.get? S = some o) (hS : S ≠ L ∧ h₀.get? S = none) (hn : ∀ p ∈ rest, p.1 ≠ S) : News h₀ L h' ((S, o) :: rest) := fun p hp => by
  rcases List.mem_cons.mp hp with rfl | hp
  · exact ⟨ho, hS⟩
  · exact ⟨(hs.2 p.1 (hn p hp)).trans (N p hp).1, (N p hp).2⟩
theorem map_extend {G : Nat → Value → Prop} {R : Result → Shared → Prop} {res : Value} (hh : A.handled = none) (hIT : I < T) (hTM : T < M) (hn : ∀ p ∈ news, p.1 ≠ I) (hl : (l, listOf xs n0) ∈ news) (hS : ∀ p ∈ mapLed news M T I l fn 0, p.1 ≠ S) (hsz : xs.size ≤ sizeLine)
    (turn : ∀ i x h tk acc c, xs[i]? = some x → Fr h₀ L h m → News h₀ L h (mapLed ((S, seqObj "list" acc c) :: news) M T I l fn (i + 1)) →
      wpAny (model prog w) A.in1.in1 (call fn [x]) (fun v s' => MapEnd h₀ L m (mapLed ((S, seqObj "list" acc c) :: news) M T I l fn (i + 1)) (G i) { s with heap := h, toks := tk } v s') (fun _ _ => False) { s with heap := h, toks := tk })
    (hR : ∀ h tk acc c, Fr h₀ L h m → News h₀ L h ((S, seqObj "list" acc c) :: news) → ItemsOf G acc xs.size → R (.ok (.ret res)) { s with heap := h, toks := tk }) :
    ∀ (k i : Nat) (h : Heap) (tk : Nat) (acc : Array Value) (c : Nat), xs.size - i = k → i ≤ xs.size → Fr h₀ L h m → News h₀ L h (mapLed ((S, seqObj "list" acc c) :: news) M T I l fn i) → ItemsOf G acc i →
      codeAny (model prog w) A (.builtin "list.extend.loop" ⟨[.ref S, .ref M, res], []⟩) R { s with heap := h, toks := tk } := by
  have hSn : ∀ p ∈ news, p.1 ≠ S := fun p hp => hS p (.tail _ (.tail _ (.tail _ hp)))
  have hSI : I ≠ S := hS (I, _) (.tail _ (.tail _ (.head _)))
  have hST : T ≠ S := hS (T, _) (.tail _ (.head _))
  have hSM : M ≠ S := hS (M, _) (.head _)
  have hn' : ∀ (o : Obj), ∀ p ∈ (S, o) :: news, p.1 ≠ I := fun o p hp => by
    rcases List.mem_cons.mp hp with rfl | hp
    · exact Ne.symm hSI
    · exact hn p hp
  intro k
  induction k with
  | zero =>
    intro i h tk acc c hk hi F N hacc
    have hin : i = xs.size := by omega
    refine codeAny_builtin PySem.F.entry_extend_loop ?_
    rw [Around.under_plainId PySem.F.plain_extend_loop _]
    show wpAny _ A.in1 (pyNext (.ref M) >>= _) _ _ _
    refine wpAny_bind (map_next_end (n0 := n0) (xs := xs) hh F N (hn' _) (.tail _ hl) (by rw [hin]; simp) fun h' tk' F' N' => ?_)
    exact wpAny_pure (hR h' tk' acc c F' N' (hin ▸ hacc))
  | succ k ih =>
    intro i h tk acc c hk hi F N hacc
    have hlt : i < xs.size := by omega
    refine codeAny_builtin PySem.F.entry_extend_loop ?_
    rw [Around.under_plainId PySem.F.plain_extend_loop _]
    show wpAny _ A.in1 (pyNext (.ref M) >>= _) _ _ _
    refine wpAny_bind (map_next_item (n0 := n0) (g := G i) (xs := xs) (x := xs[i]) F N hIT hTM (hn' _) (.tail _ hl) (by simp [hlt]) (fun h' F' N' => ?_) fun v h' tk' hg F' N' => ?_)
    · exact turn i _ h' tk acc c (by simp [hlt]) F' N'
    · have nS := N' (S, seqObj "list" acc c) (.tail _ (.tail _ (.tail _ (.head _))))
      show wpAny _ A.in1 (updateSeq S (·.push v) >>= _) _ _ _
      refine wpAny_bind ?_
      have hs := Heap.SameBut.update h' S (Obj.mapSeq (·.push v))
      obtain ⟨c2, hc2⟩ : ∃ c2, (h'.update S (Obj.mapSeq (·.push v))).get? S = some (seqObj "list" (acc.push v) c2) := ⟨_, get?_update_seq nS.1 (·.push v)⟩
      refine wpAny_updateSeq nS.1 rfl (wpAny_pure ⟨plainId_quiet PySem.F.plain_extend_loop _, ih (i + 1) _ _ (acc.push v) c2 (by omega) hlt (ksk_fr F' hs nS.2.1 nS.2.2) ?_ (hacc.push hg)⟩)
        (by rw [hacc.1]; omega) (by show (acc.push v).size ≤ sizeLine + 1; rw [Array.size_push, hacc.1]; omega)
      exact news_set (pre := [(M, mapO T fn), (T, tupO #[.ref I]), (I, liO l (i + 1))]) N' hs hc2 (fun p hp => by
        rcases List.mem_cons.mp hp with rfl | hp
        · exact hSM
        rcases List.mem_cons.mp hp with rfl | hp
        · exact hST
        · rw [List.mem_singleton.mp hp]; exact hSI) hSn
theorem tuple_map {G : Nat → Value → Prop} {Q : Value → Shared → Prop} (hh : A.handled = none) (F : Fr h₀ L s.heap m) (N : News h₀ L s.heap (mapLed news M T I l fn 0)) (hIT : I < T) (hTM : T < M) (hn : ∀ p ∈ news, p.1 ≠ I) (hl : (l, listOf xs n0) ∈ news) (hsz : xs.size ≤ sizeLine)
    (turn : ∀ i x h tk S acc c, xs[i]? = some x → Fr h₀ L h m → News h₀ L h (mapLed ((S, seqObj "list" acc c) :: news) M T I l fn (i + 1)) →
      wpAny (model prog w) A.in1.in1.in1.in1 (call fn [x]) (fun v s' => MapEnd h₀ L m (mapLed ((S, seqObj "list" acc c) :: news) M T I l fn (i + 1)) (G i) { s with heap := h, toks := tk } v s') (fun _ _ => False) { s with heap := h, toks := tk })
    (h : ∀ D h' tk acc, Fr h₀ L h' m → News h₀ L h' ((D, tupO acc) :: news) → (∀ p ∈ news, p.1 < D) → ItemsOf G acc xs.size → Q (.ref D) { s with heap := h', toks := tk }) :
    wpAny (model prog w) A (call (.type "tuple") [.ref M]) Q E s := by
  have nM := N _ (.head _)
  have hT : s.TypeIs (.ref M) "map" := ⟨_, nM.1, rfl⟩
  refine callType_codes (Q₁ := fun obj s₁ => s₁.TypeIs obj "tuple" ∧ Q obj s₁) PySem.F.called_tuple (PySem.F.typeCall_tuple_1 _) PySem.F.entry_object_init ?_ fun obj s₁ h₁ =>
    ⟨h₁.1, PySem.F.args_object_init_2 obj _, object_init_meets PySem.F.called_tuple.init.lookup PySem.F.called_tuple.made (by decide) prog w A.in1 _ s₁ ⟨h₁.1, rfl, h₁.2⟩⟩
  refine codeAny_of_tree ?_
  show wpAny _ A.in1.in1 (do checkBuiltinCall "tuple.__new__" ⟨[.type "tuple", .ref M], []⟩; again (.builtin "tuple.__new__" ⟨[.type "tuple", .ref M], []⟩)) _ _ s
  refine wpAny_bind (wpAny_of_eq (PySem.F.newCall_tuple_1 _) (wpAny_pure ⟨plainId_quiet PySem.F.plain_tuple_new _, codeAny_builtin PySem.F.entry_tuple_new ?_⟩))
  rw [Around.under_plainId PySem.F.plain_tuple_new _]
  have hsub := sub_tuple_self
  have hinit := init_tuple_lookup
  have hmh := madeHere_tuple
  wp_walk using wpAny_typeOf hT
  refine codeAny_builtin PySem.F.entry_proto_collect ?_
  rw [Around.under_plainId PySem.F.plain_proto_collect _]
  show wpAny _ A.in1.in1.in1 (newList [] >>= fun l => again (.builtin "list.__iadd__" ⟨[l, .ref M], []⟩)) _ _ s
  refine wpAny_bind (wpAny_newObj_type ?_)
  refine wpAny_pure ⟨plainId_quiet PySem.F.plain_list_iadd _, codeAny_builtin PySem.F.entry_list_iadd ?_⟩
  rw [Around.under_plainId PySem.F.plain_list_iadd _]
  show wpAny _ A.in1.in1.in1 (Builtin.List.listExtendWith (.ref s.heap.objs.size) (.ref M) (.ref s.heap.objs.size)) _ _ _
  have hMS : s.heap.objs.size ≠ M := Nat.ne_of_gt (Heap.lt_size nM.1)
  have hT₁ : ({ s with heap := s.heap.push { cls := .type "list", data := .seq ([] : List Value).toArray } } : Shared).TypeIs (.ref M) "map" := ⟨_, Heap.get?_push_of_some _ nM.1, rfl⟩
  unfold Builtin.List.listExtendWith
  refine wpAny_bind (wpAny_typeOf hT₁ ?_)
  have h1 : Builtin.List.listSameRef (.ref s.heap.objs.size) (.ref M) = false := by simp [Builtin.List.listSameRef, hMS]
  have h2 : (Value.type "map" == Value.type "list") = false := by decide
  have h3 : (Value.type "map" == Value.type "tuple") = false := by decide
  simp only [h1, h2, h3, Bool.or_false, Bool.false_eq_true, if_false]
  refine wpAny_bind (wpAny_pyIter_slot hT₁ slot_map_iter (wpAny_call_entry slot_map_iter hT₁ entry_map_iter ?_ (args_map_iter _)))
  show wpAny _ _ (ret (.ref M)) _ _ _
  refine wpAny_pure ⟨_, rfl, "map", _, hT₁, slot_map_next.lookup, ?_⟩
  refine wpAny_bind (wpAny_holding ?_)
  unfold Builtin.List.listLengthHint
  refine wpAny_bind (wpAny_specialOf hT₁ map_no_len ?_)
  show wpAny _ _ (specialOf (Value.ref M) (Str.ofString "__length_hint__") >>= _) _ _ _
  refine wpAny_bind (wpAny_specialOf hT₁ map_no_hint ?_)
  refine wpAny_pure ?_
  show wpAny _ _ (rule "list.extend.makes-room" >>= fun _ => Builtin.List.listTouch (.ref s.heap.objs.size) >>= fun _ =>
    again (.builtin "list.extend.loop" ⟨[.ref s.heap.objs.size, .ref M, .ref s.heap.objs.size], []⟩)) _ _ _
  refine wpAny_bind (wpAny_rule ?_)
  have hS₁ : (s.heap.push { cls := .type "list", data := .seq ([] : List Value).toArray }).get? s.heap.objs.size = some { cls := .type "list", data := .seq ([] : List Value).toArray } := Heap.get?_push_size _ rfl
  refine wpAny_bind ?_
  show wpAny _ _ (updateSeq s.heap.objs.size (·.push .none) >>= fun _ => updateSeq s.heap.objs.size (·.pop)) _ _ _
  refine wpAny_bind (wpAny_updateSeq hS₁ rfl ?_)
  have hS₂ := Heap.get?_update_self (Obj.mapSeq (·.push Value.none)) hS₁ rfl
  refine wpAny_updateSeq hS₂ rfl ?_
  have sb1 := Heap.SameBut.update (s.heap.push { cls := .type "list", data := .seq ([] : List Value).toArray }) s.heap.objs.size (Obj.mapSeq (·.push Value.none))
  have sb2 := Heap.SameBut.update ((s.heap.push { cls := .type "list", data := .seq ([] : List Value).toArray }).update s.heap.objs.size (Obj.mapSeq (·.push Value.none))) s.heap.objs.size (Obj.mapSeq (·.pop))
  have hLS : s.heap.objs.size ≠ L := Nat.ne_of_gt F.ns.lt
  have h0S := next_is_new F
  have F3 := ksk_fr (ksk_fr (F.push { cls := .type "list", data := .seq ([] : List Value).toArray }) sb1 hLS h0S) sb2 hLS h0S
  have hS : ∀ p ∈ mapLed news M T I l fn 0, p.1 ≠ s.heap.objs.size := fun p hp => Nat.ne_of_lt (Heap.lt_size (N p hp).1)
  have N1 : News h₀ L (s.heap.push { cls := .type "list", data := .seq ([] : List Value).toArray }) (mapLed news M T I l fn 0) := fun p hp => ⟨Heap.get?_push_of_some _ (N p hp).1, (N p hp).2⟩
  obtain ⟨c1, hc1⟩ : ∃ c, ((s.heap.push { cls := .type "list", data := .seq ([] : List Value).toArray }).update s.heap.objs.size (Obj.mapSeq (·.push Value.none))).get? s.heap.objs.size = some (seqObj "list" #[Value.none] c) := ⟨_, get?_update_seq hS₁ (·.push Value.none)⟩
  obtain ⟨c2, hc2⟩ : ∃ c, (((s.heap.push { cls := .type "list", data := .seq ([] : List Value).toArray }).update s.heap.objs.size (Obj.mapSeq (·.push Value.none))).update s.heap.objs.size (Obj.mapSeq (·.pop))).get? s.heap.objs.size = some (seqObj "list" #[] c) := ⟨_, get?_update_seq hc1 (·.pop)⟩
  have N3 := news_S (ksk_news (ksk_news N1 sb1 hS) sb2 hS) (Heap.SameBut.refl _ _) hc2 ⟨hLS, h0S⟩ hS
  refine wpAny_pure ⟨plainId_quiet PySem.F.plain_extend_loop _, map_extend (A := A.in1.in1) (s := s) (G := G) hh hIT hTM hn hl hS hsz (fun i x h tk acc c hx F N => turn i x h tk _ acc c hx F N) ?_ xs.size 0 _ s.toks #[] c2 rfl (Nat.zero_le _) F3 ?_ (ItemsOf.nil G)⟩
  · intro h' tk' acc c F' N' hacc
    have nS := N' _ (.head _)
    show wpAny _ _ (load s.heap.objs.size >>= _) _ _ _
    refine wpAny_bind (wpAny_load nS.1 ?_)
    refine wpAny_pure ?_
    show wpAny _ _ (Builtin.Tuple.tupleExact acc.toList.toArray >>= fun v => ret v) _ _ _
    unfold Builtin.Tuple.tupleExact
    have e : acc.toList.toArray = acc := by simp
    rw [e]
    refine wpAny_bind (wpAny_newObj_type ?_ (by show acc.size ≤ sizeLine; rw [hacc.1]; exact hsz))
    refine wpAny_pure ⟨⟨_, Heap.get?_push_size _ rfl, rfl⟩, h _ _ _ acc (F'.push _) (fun p hp => ?_) (fun p hp => Heap.lt_size (N' p (.tail _ hp)).1) hacc⟩
    rcases List.mem_cons.mp hp with rfl | hp
    · exact ⟨Heap.get?_push_size _ rfl, Nat.ne_of_gt F'.ns.lt, next_is_new F'⟩
    · exact ⟨Heap.get?_push_of_some _ (N' p (.tail _ hp)).1, (N' p (.tail _ hp)).2⟩
  · exact cb_drop N3 fun p hp => by
      simp only [mapLed, List.mem_cons] at hp ⊢
      rcases hp with h | h | h | h | h <;> simp [h]
end
end
/- part M4 -/
theorem freshM4 : True := by
  w_top off
  trivial
section
set_option Elab.async false
set_option maxRecDepth 100000
set_option maxHeartbeats 8000000
set_option linter.unusedVariables false
abbrev setO (es : Array (Int × Value)) (ep : Nat) (t : SetTable) : Obj := { cls := .type "set", dict := none, data := .set es ep t }
def tab1 (led : Bool) : SetTable := { mask := 7, place := #[1], dummies := #[], finger := 0, led := led, moves := 0, plain := true }
theorem lay1 (led : Bool) : layNew (.fresh 0 0 led) #[] 1 (.bool true) = (#[(1, .bool true)], tab1 led, false, false) := by
  cases led <;> kernel_rfl
theorem tab1_fits (led : Bool) : (tab1 led).fits 1 = true := rfl
theorem tab1_notfull (led : Bool) : (tab1 led).tooFull = false := by cases led <;> decide +kernel
section
variable {prog : Program} {w : World} {A : Around} {E : Value → Shared → Prop} {s : Shared} {a : Addr}
theorem pyHash_true {Q : Int → Shared → Prop} (h : ∀ tk, Q 1 { s with toks := tk }) : wpAny (model prog w) A (pyHash (.bool true)) Q E s := by
  have hT : s.TypeIs (.bool true) "bool" := rfl
  unfold pyHash
  have hv : [Value.bool true].any Value.onHeap = false := rfl
  refine wpAny_bind ?_
  rw [cRoomFor, if_neg (by rw [hv]; exact Bool.false_ne_true)]; refine wpAny_pure ?_
  refine wpAny_bind (wpAny_specialOf hT PySem.F.slot_bool_hash.lookup ?_)
  show wpAny _ _ (if (some (Value.builtin "int.__hash__") == some Value.none) = true then _ else _) Q E s
  rw [if_neg (by rw [beq_builtin_none]; exact Bool.false_ne_true)]
  refine wpAny_bind (wpAny_specialOf hT PySem.F.slot_bool_hash.lookup ?_)
  show wpAny _ _ (callSpecialIfBoundUnlessNone? (.bool true) "__hash__" _ >>= _) Q E s
  refine wpAny_bind (wpAny_callSpecialIfBoundUnlessNone?_slot hT PySem.F.slot_bool_hash
    (wpAny_call_entry PySem.F.slot_bool_hash hT entry_int_hash
      (show wpAny _ _ (do ret (← mkInt (rawHash 1))) _ _ s from wpAny_ret_mkInt ?_) (args_int_hash _)))
  show wpAny _ _ (if (decide (-(2 : Int) ^ 63 ≤ rawHash 1) && decide (rawHash 1 < 2 ^ 63)) = true then _ else _) Q E _
  rw [if_pos (by decide +kernel)]
  have e : rawHash 1 = 1 := by decide +kernel
  exact wpAny_pure (by rw [e]; exact h _)
theorem eqBool_true {Q : Bool → Shared → Prop} (h : Q true s) : wpAny (model prog w) A (eqBool (.bool true) (.bool true)) Q E s := by
  unfold eqBool
  refine wpAny_holding ?_
  show wpAny _ _ (if (Value.bool true == Value.bool true) = true then _ else _) Q E s
  rw [if_pos (by rfl)]
  exact wpAny_bind (wpAny_rule (wpAny_pure h))
theorem set_add_0 {led : Bool} {Q : Value → Shared → Prop} (ho : s.heap.get? a = some (setO #[] 0 (.fresh 0 0 led)))
    (h : ∀ h' tk ep, Heap.SameBut a s.heap h' → h'.get? a = some (setO #[(1, .bool true)] ep (tab1 led)) → Q .none { s with heap := h', toks := tk }) :
    wpAny (model prog w) A (call (.builtin "set.add") [.ref a, .bool true]) Q E s := by
  have hT : s.TypeIs (.ref a) "set" := ⟨_, ho, rfl⟩
  refine wpAny_call_entry PySem.F.slot_set_add hT PySem.F.entry_set_add ?_ (PySem.F.args_set_add_2 _ _)
  unfold Builtin.«set.add» Builtin.Frozenset.oneOther
  simp only [List.isEmpty_nil, bind_assoc]
  unfold Builtin.Frozenset.addrOf setAdd
  refine wpAny_bind (wpAny_pure ?_)
  try dsimp only
  refine wpAny_bind (wpAny_pure ?_)
  try dsimp only
  refine wpAny_bind ?_
  refine wpAny_holding ?_
  refine wpAny_bind (pyHash_true fun tk => ?_)
  unfold setAddHashed setAddHashedIn
  refine wpAny_holding (wpAny_bind (wpAny_setState_of (t := .fresh 0 0 led) ho rfl rfl ?_))
  dsimp only
  have hb : byScan (.bool true) (#[] : Array (Int × Value)) = true := by decide +kernel
  rw [hb]
  simp only [↓reduceIte]
  unfold setAddByScan
  refine wpAny_bind ?_
  refine wpAny_bind (wpAny_rule ?_)
  refine wpAny_bind (wpAny_pure ?_)
  dsimp only
  rw [lay1]
  dsimp only
  refine wpAny_bind (wpAny_pure ?_)
  rw [if_pos (by rfl)]
  refine wpAny_bind ?_
  rw [hashByValue_scannable 8 (x := .bool true) rfl]
  refine wpAny_pure ?_
  simp only [show plainKind (.bool true) = true from rfl, if_true]
  refine wpAny_bind (wpAny_storeSet_of (t := .fresh 0 0 led) ho rfl ?_ (by decide))
  rw [tab1_notfull]
  simp only [Bool.and_false, Bool.false_eq_true, ↓reduceIte]
  refine wpAny_pure (wpAny_pure ?_)
  show wpAny _ _ (ret Value.none) _ _ _
  exact wpAny_pure ⟨_, rfl, h _ _ _ (Heap.SameBut.update ..) (Heap.get?_update_self _ ho rfl)⟩
theorem set_add_1 {led : Bool} {ep : Nat} {Q : Value → Shared → Prop} (ho : s.heap.get? a = some (setO #[(1, .bool true)] ep (tab1 led)))
    (h : ∀ tk, Q .none { s with toks := tk }) :
    wpAny (model prog w) A (call (.builtin "set.add") [.ref a, .bool true]) Q E s := by
  have hT : s.TypeIs (.ref a) "set" := ⟨_, ho, rfl⟩
  refine wpAny_call_entry PySem.F.slot_set_add hT PySem.F.entry_set_add ?_ (PySem.F.args_set_add_2 _ _)
  unfold Builtin.«set.add» Builtin.Frozenset.oneOther
  simp only [List.isEmpty_nil, bind_assoc]
  unfold Builtin.Frozenset.addrOf setAdd
  refine wpAny_bind (wpAny_pure ?_)
  try dsimp only
  refine wpAny_bind (wpAny_pure ?_)
  try dsimp only
  refine wpAny_bind ?_
  refine wpAny_holding ?_
  refine wpAny_bind (pyHash_true fun tk => ?_)
  unfold setAddHashed setAddHashedIn
  refine wpAny_holding (wpAny_bind (wpAny_setState_of (t := tab1 led) ho rfl rfl ?_))
  dsimp only
  have hb : byScan (.bool true) (#[(1, .bool true)] : Array (Int × Value)) = true := by decide +kernel
  rw [hb]
  simp only [↓reduceIte]
  unfold setAddByScan
  refine wpAny_bind ?_
  refine wpAny_bind (wpAny_rule ?_)
  refine wpAny_bind ?_
  show wpAny _ _ (setScanFrom a (.bool true) 1 true [(1, .bool true)] 0) _ _ _
  unfold setScanFrom
  rw [if_pos (by rfl)]
  refine wpAny_bind (wpAny_setEpoch_of (t := tab1 led) ho rfl rfl ?_)
  refine wpAny_bind (eqBool_true ?_)
  simp only [Bool.and_self, ↓reduceIte]
  refine wpAny_pure ?_
  dsimp only
  refine wpAny_pure (wpAny_pure ?_)
  show wpAny _ _ (ret Value.none) _ _ _
  exact wpAny_pure ⟨_, rfl, h _⟩
end
end
/- part M5 -/
theorem freshM5 : True := by
  w_top off
  trivial
section
set_option Elab.async false
set_option maxRecDepth 100000
set_option maxHeartbeats 8000000
set_option linter.unusedVariables false
open LCg
section
variable {prog : Program} {w : World} {A : Around} {E : Value → Shared → Prop} {s : Shared} {h₀ : Heap} {L : Addr} {m : Str → Option Value} {env : Env}
abbrev tupK (its : Array Value) (k : Nat) : Obj := { cls := .type "tuple", data := .seq its k }
def SrcTu (prog : Program) (w : World) (A : Around) (h₀ : Heap) (L : Addr) (m : Str → Option Value) (env : Env) (elt : Expr) (x : Str) (scope : Scope) (cl : List (Str × Addr)) (Fin : Shared → List Value → List (Addr × Obj) → Prop) (xv : Value) (s₁ : Shared) : Prop :=
  ∃ ax its k news, xv = .ref ax ∧ A.handled = none ∧ Fr h₀ L s₁.heap m ∧ News h₀ L s₁.heap news ∧ (ax, tupK its k) ∈ news ∧ its.size ≤ sizeLine ∧
    ∀ g, CompRest prog w A h₀ L m env elt x scope cl { s₁ with heap := g } (fun nw => (ax, tupK its k) ∈ nw) (fun i v => its[i]? = some v) (Fin { s₁ with heap := g }) its.size 0 [] news
theorem tup_st {ax I : Addr} {its : Array Value} {k : Nat} : ∀ i (h h' : Heap) (o : Obj) (nw : List (Addr × Obj)), (h.IsTupleIter I ax i ∧ h.IsTuple ax its) → h.get? I = some o → h'.get? I = some o → (∀ b o, h₀.get? b = some o → h'.get? b = some o) → News h₀ L h' nw → (ax, tupK its k) ∈ nw → (h'.IsTupleIter I ax i ∧ h'.IsTuple ax its) :=
  fun i h h' o nw st e e' _ N S => ⟨by obtain ⟨o', q, r⟩ := st.1; rw [e] at q; cases q; exact ⟨o, e', r⟩, ⟨_, (N _ S).1, rfl, k, rfl⟩⟩
theorem Assign_ListComp_Tup {elt iter : Expr} {x y : Str} {px py : Pos} {scope : Scope} {cl : List (Str × Addr)} {pos spos : Pos} {Q : Flow → Shared → Prop} (F₀ : Fr h₀ L s.heap m) (hLe : env.locals = L)
    (hsw : swapsWith (.ListComp elt [⟨.Name x px, iter, [], 0⟩] scope pos) (some (.Name y py)) spos.line env = pure true)
    (hclos : closureFor scope env = pure cl) (hcell : ∀ z ∈ scope.names, z.2 ≠ .cell) (hkind : scope.kind = .function)
    (hnames : ∀ z ∈ scope.names, z.2 = .local → scope.names.lookup z.1 = some .local) (hx : scope.names.lookup x = some .local)
    (hy : env.kindOf y = some .local) (hp : (env.scope.kind == .class || (env.scope.kind == .module && env.locals != env.globals)) = false)
    (h : wpAny (model prog w) A (eval iter env) (SrcTu prog w A h₀ L m env elt x scope cl (fun s₂ => FinA h₀ L m s₂ y Q)) E s)
    (hs : ∀ x, foldedSetIterable iter env x = pure x := by intro _; rfl) :
    wpAny (model prog w) A (exec (.Assign [.Name y py] (.ListComp elt [⟨.Name x px, iter, [], 0⟩] scope pos) spos) env) Q E s := by
  subst hLe
  rw [exec_Assign_Name_used _ _ _ _ hsw]
  refine wpAny_bind (wpAny_standAt (wpAny_bind ?_))
  show wpAny _ A (do let _ ← comprehension (.ListComp elt [⟨.Name x px, iter, [], 0⟩] scope pos) scope env _ (newList []) false (eval iter env) (some (assign (.Name y py) env))) _ _ s
  refine wpAny_bind (wpAny_mono (wpAny_comprehension_free (use := some (assign (.Name y py) env)) (Q := fun _ s' => Q .next s') rfl hs hclos hkind hnames
    (wpAny_mono h (fun xv s₁ h₁ => ?_) fun _ _ e => e)) (fun _ s' hq => wpAny_pure (wpAny_pure hq)) fun _ _ e => e)
  obtain ⟨ax, its, k, news, rfl, hh, F, N, S, hsz, R⟩ := h₁
  have hl : s₁.heap.IsTuple ax its := ⟨_, (N _ S).1, rfl, k, rfl⟩
  have hlt : ax < s₁.heap.objs.size := Heap.lt_size (N _ S).1
  refine wpAny_pyIter_tuple hl ?_
  have up : ∀ b o, s₁.heap.get? b = some o → (s₁.heap.push { cls := .type "tuple_iterator", data := .fields #[.ref ax, .int 0 0] }).get? b = some o := fun b o e => Heap.get?_push_of_some _ e
  refine block_U (Walks.tuple hh s₁.heap.objs.size ax (Nat.ne_of_lt hlt) its) hsz (fun i h st => by obtain ⟨o, e, _⟩ := st.1; exact ⟨o, e⟩) (tup_st (k := k)) hcell hkind hx ⟨⟨_, Heap.get?_push_size _ rfl, rfl, rfl⟩, hl.at fun o e => Heap.get?_push_of_some _ e⟩ (fun b hb => ?_)
    (F.keeps up) (N.grown up) (Nat.ne_of_lt F.ns.lt) (next_is_new F) (fun p hp => Nat.ne_of_lt (Heap.lt_size (N p hp).1)) S (R _) ?_
  · show b < (s₁.heap.push _).objs.size
    rw [Heap.size_push]
    rcases List.mem_cons.mp hb with rfl | hb
    · exact Nat.lt_succ_self _
    · rw [List.mem_singleton.mp hb]; exact Nat.lt_succ_of_lt hlt
  · intro D C h' tk m' ys news' F' N' o1 hn hC₀ hD₀ hCL hDL hCD offC fin
    show wpAny _ A (assign (.Name y py) env (.ref D)) _ _ _
    refine wpAny_assign_Name (wpAny_storeName_local hy F'.ns (fun h₂ hn₂ hs₂ => ?_) hp)
    have hL₀ : h₀.get? env.locals = none := Heap.get?_none_of_le F'.above
    have F₂ : Fr h₀ env.locals h₂ (fun z => if z = y then some (.ref D) else m z) := ⟨hn₂, fun b o e => hs₂.extBut b o (fun q => by rw [q, hL₀] at e; cases e) (F'.keep b o e), F'.above⟩
    refine ⟨m', hn.sameBut hs₂ hCL, fun h'' hs'' => fin D h'' _ (F₂.change hs'' hCL hC₀) (fun p hp => ?_) o1⟩
    have z : h₂.get? p.1 = some p.2 := hs₂.extBut _ _ (N' p hp).2.1 (N' p hp).1
    refine ⟨hs''.extBut _ _ ?_ z, (N' p hp).2⟩
    rcases List.mem_cons.mp hp with rfl | hp
    · exact Ne.symm hCD
    · exact offC p hp
end
end
/- part M6 -/
theorem freshM6 : True := by
  w_top off
  trivial
section
set_option Elab.async false
set_option maxRecDepth 100000
set_option maxHeartbeats 8000000
set_option linter.unusedVariables false
open LCg
theorem compTurn_set (elt target iter : Expr) (ifs : List Expr) (scope : Scope) (pos : Pos) (it acc : Value) (env : Env) :
    compTurn (.SetComp elt [⟨target, iter, ifs, 0⟩] scope pos) 0 it acc env = (do
      standAt iter.pos
      match ← pyNext it with
      | none => pure (.done .next)
      | some v =>
        letOwnedTupleGo target it v
        assign target env v
        let mut ok := true
        for c in ifs do
          if ok then ok ← isTrue c env (eval c env)
        if ok then
          (do
            let v ← eval elt env
            standAt elt.pos
            let _ ← call (.builtin "set.add") [acc, v])
        again (.compLoop (.SetComp elt [⟨target, iter, ifs, 0⟩] scope pos) 0 it acc env)) := by rfl
section
variable {prog : Program} {w : World} {A : Around} {E : Value → Shared → Prop} {R : Result → Shared → Prop} {s : Shared}
theorem codeAny_compStart_set {elt target iter ifs rest scope pos it acc env}
    (h0 : codeAny (model prog w) A (.compLoop (.SetComp elt (⟨target, iter, ifs, 0⟩ :: rest) scope pos) 0 it acc env) R s)
    (h : wpAny (model prog w) A (pyIter it) (fun it' s' => codeAny (model prog w) A (.compLoop (.SetComp elt (⟨target, iter, ifs, 0⟩ :: rest) scope pos) 0 it' acc env) R s')
      (notedBy (model prog w) A env fun x s' => R (.error x) s') s) :
    codeAny (model prog w) A (.compStart (.SetComp elt (⟨target, iter, ifs, 0⟩ :: rest) scope pos) 0 it acc env) R s := by
  refine codeAny_of_tree ?_
  show wpAny _ A ((compStart (.SetComp elt (⟨target, iter, ifs, 0⟩ :: rest) scope pos) 0 it acc env).onRaise (fun x => do noteFrame x env; standAt theWindowsPlace)) _ _ s
  refine wpAny_notedAt ?_
  unfold compStart
  show wpAny _ A (ask >>= _) _ _ s
  refine wpAny_bind (wpAny_askSetting (wpAny_ite ?_))
  split
  · first
      | exact wpAny_bind (wpAny_pure (wpAny_pure (And.intro rfl h0)))
      | exact wpAny_pure (And.intro rfl h0)
  · first
      | exact wpAny_bind (wpAny_rule (wpAny_bind (wpAny_standAt (wpAny_bind (wpAny_mono h (fun it' s' h' => wpAny_pure (And.intro rfl h')) fun _ _ x => x)))))
      | (refine wpAny_bind (wpAny_rule ?_); show wpAny _ _ (standAt iter.pos >>= _) _ _ s; exact wpAny_bind (wpAny_standAt (wpAny_bind (wpAny_mono h (fun it' s' h' => wpAny_pure (And.intro rfl h')) fun _ _ x => x))))
theorem codeAny_compLoop_set {elt target iter : Expr} {scope : Scope} {pos : Pos} {it acc : Value} {env : Env} (I : Nat → Shared → Prop)
    (turn : ∀ n s, I n s → wpAny (model prog w) A (pyNext it) (fun r s₁ => match r with
      | none => R (.ok .next) s₁
      | some v => wpAny (model prog w) A (assign target env v) (fun _ s₂ =>
          wpAny (model prog w) A (eval elt env) (fun x s₄ =>
              wpAny (model prog w) A (call (.builtin "set.add") [acc, x]) (fun _ s₅ => ∃ m, m < n ∧ I m s₅) (notedBy (model prog w) A env fun e s' => R (.error e) s') s₄) (notedBy (model prog w) A env fun e s' => R (.error e) s') s₂) (notedBy (model prog w) A env fun e s' => R (.error e) s') s₁) (notedBy (model prog w) A env fun e s' => R (.error e) s') s)
    (n : Nat) (h : I n s) (ht : ∀ v, letOwnedTupleGo target it v = pure () := by intro _; rfl) :
    codeAny (model prog w) A (.compLoop (.SetComp elt [⟨target, iter, [], 0⟩] scope pos) 0 it acc env) R s := by
  refine codeAny_loop rfl I (fun n s hI => ?_) n h
  show wpAny _ A ((compTurn (.SetComp elt [⟨target, iter, [], 0⟩] scope pos) 0 it acc env).onRaise (fun x => do noteFrame x env; theTreesLotGoes x)) _ _ s
  refine wpAny_noted ?_
  rw [compTurn_set]
  refine wpAny_bind (wpAny_standAt (wpAny_bind (wpAny_mono (turn n s hI) (fun r s₁ h₁ => ?_) fun _ _ h' => h')))
  cases r with
  | none => exact wpAny_pure h₁
  | some v =>
    refine wpAny_bind (wpAny_of_eq (ht v) ?_)
    refine wpAny_bind (wpAny_mono h₁ (fun _ s₂ h₂ => ?_) fun _ _ h' => h')
    simp only [List.forIn_nil]
    refine wpAny_bind (wpAny_pure ?_)
    simp only [if_true]
    exact wpAny_bind (wpAny_bind (wpAny_mono h₂ (fun x s₄ h₄ => wpAny_bind (wpAny_standAt (wpAny_bind (wpAny_mono h₄ (fun _ s₅ h₅ => wpAny_pure (wpAny_pure ⟨rfl, h₅⟩)) fun _ _ h' => h')))) fun _ _ h' => h'))
end
end
/- part M7 -/
theorem freshM7 : True := by
  w_top off
  trivial
section
set_option Elab.async false
set_option maxRecDepth 100000
set_option maxHeartbeats 8000000
set_option linter.unusedVariables false
open LCg
def ledOf (w : World) : Bool := !(w.params.followText "set-order")
def SetAt (led : Bool) (i : Nat) (o : Obj) : Prop := (i = 0 ∧ o = setO #[] 0 (.fresh 0 0 led)) ∨ (0 < i ∧ ∃ ep, o = setO #[(1, .bool true)] ep (tab1 led))
section
variable {prog : Program} {w : World} {A : Around} {E : Value → Shared → Prop} {s : Shared} {h₀ : Heap} {L : Addr} {m : Str → Option Value} {env : Env}
def SrcSet (prog : Program) (w : World) (A : Around) (h₀ : Heap) (L : Addr) (m : Str → Option Value) (env : Env) (elt : Expr) (x : Str) (scope : Scope) (cl : List (Str × Addr)) (Q : Value → Shared → Prop) (xv : Value) (s₁ : Shared) : Prop :=
  ∃ (ax : Addr) (its : Array Value) (k : Nat) (news : List (Addr × Obj)), xv = .ref ax ∧ A.handled = none ∧ Fr h₀ L s₁.heap m ∧ News h₀ L s₁.heap news ∧ (ax, tupK its k) ∈ news ∧ 0 < its.size ∧
    (∀ (i : Nat) v I oI C oC D oD m₂ h tk (E' : Value → Shared → Prop), its[i]? = some v → NsObj oC m₂ → m₂ x = some v → Fr h₀ L h m → News h₀ L h ((I, oI) :: (C, oC) :: (D, oD) :: news) →
      wpAny (model prog w) A (eval elt (compEnvC scope cl C env)) (fun y s' => y = .bool true ∧ ∃ h' tk', s' = { s₁ with heap := h', toks := tk' } ∧ Fr h₀ L h' m ∧ News h₀ L h' ((I, oI) :: (C, oC) :: (D, oD) :: news)) E' { s₁ with heap := h, toks := tk }) ∧
    (∀ D ep h tk, Fr h₀ L h m → News h₀ L h ((D, setO #[(1, .bool true)] ep (tab1 (ledOf w))) :: news) → (∀ p ∈ news, p.1 ≠ D) → Q (.ref D) { s₁ with heap := h, toks := tk })
theorem set_add_at {D : Addr} {oD : Obj} {led : Bool} {i : Nat} {Q : Value → Shared → Prop} (ho : s.heap.get? D = some oD) (hS : SetAt led i oD)
    (h : ∀ h' tk o', Heap.SameBut D s.heap h' → h'.get? D = some o' → SetAt led (i + 1) o' → Q .none { s with heap := h', toks := tk }) :
    wpAny (model prog w) A (call (.builtin "set.add") [.ref D, .bool true]) Q E s := by
  rcases hS with ⟨rfl, rfl⟩ | ⟨hi, ep, rfl⟩
  · exact set_add_0 ho fun h' tk ep hs e => h h' tk _ hs e (.inr ⟨by omega, ep, rfl⟩)
  · exact set_add_1 ho fun tk => h s.heap tk _ (Heap.SameBut.refl _ _) ho (.inr ⟨by omega, ep, rfl⟩)
theorem SetComp_Tup {elt iter : Expr} {x : Str} {px : Pos} {scope : Scope} {cl : List (Str × Addr)} {pos : Pos} {Q : Value → Shared → Prop} (F₀ : Fr h₀ L s.heap m)
    (hclos : closureFor scope env = pure cl) (hcell : ∀ y ∈ scope.names, y.2 ≠ .cell) (hkind : scope.kind = .function)
    (hnames : ∀ y ∈ scope.names, y.2 = .local → scope.names.lookup y.1 = some .local) (hx : scope.names.lookup x = some .local)
    (h : wpAny (model prog w) A (eval iter env) (SrcSet prog w A h₀ L m env elt x scope cl Q) E s)
    (hs : ∀ x, foldedSetIterable iter env x = pure x := by intro _; rfl) :
    wpAny (model prog w) A (eval (.SetComp elt [⟨.Name x px, iter, [], 0⟩] scope pos) env) Q E s := by
  rw [arm_eval_SetComp]
  refine wpAny_comprehension_free (use := none) rfl hs hclos hkind hnames (wpAny_mono h (fun xv s₁ h₁ => ?_) fun _ _ e => e)
  obtain ⟨ax, its, k, news, rfl, hh, F, N, hax, hpos, turn, fin⟩ := h₁
  have hl : s₁.heap.IsTuple ax its := ⟨_, (N _ hax).1, rfl, k, rfl⟩
  have hlt : ax < s₁.heap.objs.size := Heap.lt_size (N _ hax).1
  refine wpAny_pyIter_tuple hl ?_
  unfold newSet setsByText
  refine wpAny_bind (wpAny_bind (wpAny_askSetting (wpAny_pure ?_)))
  dsimp only
  simp only [newObj]
  refine wpAny_bind (wpAny_alloc (wpAny_pure ?_))
  have W := Walks.tuple (prog := prog) (w := w) hh s₁.heap.objs.size ax (Nat.ne_of_lt hlt) its
  have up1 : ∀ b o, s₁.heap.get? b = some o → (s₁.heap.push { cls := .type "tuple_iterator", data := .fields #[.ref ax, .int 0 0] }).get? b = some o := fun b o e => Heap.get?_push_of_some _ e
  have F1 : Fr h₀ L (s₁.heap.push { cls := .type "tuple_iterator", data := .fields #[.ref ax, .int 0 0] }) m := F.push _
  have hI0 : (s₁.heap.push { cls := .type "tuple_iterator", data := .fields #[.ref ax, .int 0 0] }).IsTupleIter s₁.heap.objs.size ax 0 := ⟨_, Heap.get?_push_size _ rfl, rfl, rfl⟩
  have hIL : s₁.heap.objs.size ≠ L := Nat.ne_of_gt F.ns.lt
  have hIh : h₀.get? s₁.heap.objs.size = none := next_is_new F
  have hIn : ∀ p ∈ news, p.1 ≠ s₁.heap.objs.size := fun p hp => Nat.ne_of_lt (Heap.lt_size (N p hp).1)
  have hz1 : (s₁.heap.push { cls := .type "tuple_iterator", data := .fields #[.ref ax, .int 0 0] }).objs.size = s₁.heap.objs.size + 1 := Heap.size_push ..
  generalize hH1 : s₁.heap.push { cls := .type "tuple_iterator", data := .fields #[.ref ax, .int 0 0] } = H1 at *
  generalize hI : s₁.heap.objs.size = I at *
  have F2 : Fr h₀ L (H1.push { cls := .type "set", dict := none, data := .set #[] 0 (.fresh 0 0 (ledOf w)) }) m := F1.push _
  have hDL : H1.objs.size ≠ L := Nat.ne_of_gt F1.ns.lt
  have hDh : h₀.get? H1.objs.size = none := next_is_new F1
  have hID : I ≠ H1.objs.size := by rw [hz1]; exact Nat.ne_of_lt (Nat.lt_succ_self _)
  have hDn : ∀ p ∈ news, p.1 ≠ H1.objs.size := fun p hp => Nat.ne_of_lt (Heap.lt_size (up1 _ _ (N p hp).1))
  have hD2 : (H1.push { cls := .type "set", dict := none, data := .set #[] 0 (.fresh 0 0 (ledOf w)) }).get? H1.objs.size = some (setO #[] 0 (.fresh 0 0 (ledOf w))) := Heap.get?_push_size _ rfl
  have up2 : ∀ b o, H1.get? b = some o → (H1.push { cls := .type "set", dict := none, data := .set #[] 0 (.fresh 0 0 (ledOf w)) }).get? b = some o := fun b o e => Heap.get?_push_of_some _ e
  have hz2 : (H1.push { cls := .type "set", dict := none, data := .set #[] 0 (.fresh 0 0 (ledOf w)) }).objs.size = H1.objs.size + 1 := Heap.size_push ..
  refine wpAny_newFunctionEnv hcell (by intro y hy; simp at hy) (fun h₁ hns₁ hsb₁ => ?_) hkind
  dsimp only at hns₁ hsb₁ ⊢
  have hCd : (H1.push { cls := .type "set", dict := none, data := .set #[] 0 (.fresh 0 0 (!(model prog w).w.params.followText "set-order")) }) = (H1.push { cls := .type "set", dict := none, data := .set #[] 0 (.fresh 0 0 (ledOf w)) }) := rfl
  rw [hCd] at hns₁ hsb₁ ⊢
  generalize hH2 : H1.push { cls := .type "set", dict := none, data := .set #[] 0 (.fresh 0 0 (ledOf w)) } = H2 at *
  clear hCd
  have hCL : H2.objs.size ≠ L := Nat.ne_of_gt F2.ns.lt
  have hCh : h₀.get? H2.objs.size = none := next_is_new F2
  have hCI : I ≠ H2.objs.size := by rw [hz2, hz1]; exact Nat.ne_of_lt (Nat.lt_succ_of_lt (Nat.lt_succ_self _))
  have hCD : H1.objs.size ≠ H2.objs.size := by rw [hz2]; exact Nat.ne_of_lt (Nat.lt_succ_self _)
  have hCn : ∀ p ∈ news, p.1 ≠ H2.objs.size := fun p hp => Nat.ne_of_lt (Heap.lt_size (up2 _ _ (up1 _ _ (N p hp).1)))
  have hax1 : ax ≠ H1.objs.size := hDn _ hax
  have hax2 : ax ≠ H2.objs.size := hCn _ hax
  have old : ∀ b o, b ≠ H2.objs.size → H2.get? b = some o → h₁.get? b = some o := fun b o hb e => hsb₁.extBut b o hb (Heap.get?_push_of_some _ e)
  have F3 : Fr h₀ L h₁ m := (F2.push _).change hsb₁ hCL hCh
  have N3 : News h₀ L h₁ ((H1.objs.size, setO #[] 0 (.fresh 0 0 (ledOf w))) :: news) := fun p hp => by
    rcases List.mem_cons.mp hp with rfl | hp
    · exact ⟨old _ _ hCD hD2, hDL, hDh⟩
    · exact ⟨old _ _ (hCn p hp) (up2 _ _ (up1 _ _ (N p hp).1)), (N p hp).2⟩
  have hst : h₁.IsTupleIter I ax 0 ∧ h₁.IsTuple ax its := by
    obtain ⟨o, e, r⟩ := hI0
    exact ⟨⟨o, old _ _ hCI (up2 _ _ e), r⟩, ⟨_, (N3 _ (.tail _ hax)).1, rfl, k, rfl⟩⟩
  have loop : ∀ s₃ : Shared, s₃ = { s₁ with heap := h₁, toks := s₁.toks + ([] : List (Str × Value)).length } →
      codeAny (model prog w) A (.compLoop (.SetComp elt [⟨.Name x px, iter, [], 0⟩] scope pos) 0 (.ref I) (.ref H1.objs.size) (compEnvC scope cl H2.objs.size env))
        (compPost (model prog w) A E none Q (.ref H1.objs.size) H2.objs.size) s₃ := by
    rintro s₃ rfl
    refine codeAny_compLoop_set
      (fun n s' => ∃ h' tk i oD m', s' = { s₁ with heap := h', toks := tk } ∧ i ≤ its.size ∧ n = its.size + 1 - i ∧ (h'.IsTupleIter I ax i ∧ h'.IsTuple ax its) ∧ Fr h₀ L h' m ∧ h'.Ns H2.objs.size m' ∧ News h₀ L h' ((H1.objs.size, oD) :: news) ∧ SetAt (ledOf w) i oD) ?_ (its.size + 1)
      ⟨h₁, _, 0, _, _, rfl, Nat.zero_le _, rfl, hst, F3, hns₁, N3, .inl ⟨rfl, rfl⟩⟩
    rintro n s' ⟨h', tk, i, oD, m', rfl, hi, rfl, hst', F', hn', N', hS'⟩
    by_cases hlt' : i < its.size
    · refine W.item i _ _ _ hlt' hst' fun v h₂ tk₂ hPv hst₂ hk₂ => ?_
      refine wpAny_assign_Name (wpAny_storeName_local (lookup_relabel_local hx) (hn'.at' fun o e => hk₂ _ o (by simpa using Ne.symm hCI) e) (fun h₃ hn₃ hs₃ => ?_) (by simp [compEnvC, relabel, hkind]))
      have hst₃ := W.frame _ _ h₃ hst₂ fun b hb o e => hs₃.extBut b o (fun q => by
        simp only [List.mem_cons, List.not_mem_nil, or_false] at hb
        rcases hb with hb | hb
        · exact hCI (hb.symm.trans q)
        · exact hax2 (hb.symm.trans q)) e
      obtain ⟨oI, heI, hoI⟩ := id hst₃.1
      obtain ⟨oC, heC, hoC⟩ := ns_obj hn₃
      have F₃ : Fr h₀ L h₃ m := (fr_but F' hk₂ (Ne.symm hIL) hIh).change hs₃ hCL hCh
      have N₂ : News h₀ L h₂ ((H1.objs.size, oD) :: news) := news_but N' hk₂ fun p hp => by
        rcases List.mem_cons.mp hp with rfl | hp
        · exact Ne.symm hID
        · exact hIn p hp
      have N₃ : News h₀ L h₃ ((I, oI) :: (H2.objs.size, oC) :: (H1.objs.size, oD) :: news) := fun p hp => by
        rcases List.mem_cons.mp hp with rfl | hp
        · exact ⟨heI, hIL, hIh⟩
        · rcases List.mem_cons.mp hp with rfl | hp
          · exact ⟨heC, hCL, hCh⟩
          · have z := N₂ p hp
            refine ⟨hs₃.extBut _ _ ?_ z.1, z.2⟩
            rcases List.mem_cons.mp hp with rfl | hp
            · exact hCD
            · exact hCn p hp
      refine wpAny_mono (turn i v I oI H2.objs.size oC H1.objs.size oD _ h₃ _ _ hPv hoC (by simp) F₃ N₃) (fun y s₄ h₄ => ?_) fun _ _ e => e
      obtain ⟨rfl, h₄, tk₄, rfl, F₄, N₄⟩ := h₄
      have zI := (N₄ (I, oI) (.head _)).1
      have zC := (N₄ (H2.objs.size, oC) (.tail _ (.head _))).1
      have zD := (N₄ (H1.objs.size, oD) (.tail _ (.tail _ (.head _)))).1
      have N₄' : News h₀ L h₄ news := fun p hp => N₄ p (.tail _ (.tail _ (.tail _ hp)))
      refine set_add_at zD hS' fun h₅ tk₅ o₅ hs₅ hD₅ hS₅ => ?_
      refine ⟨its.size + 1 - (i + 1), by omega, h₅, tk₅, i + 1, o₅, _, rfl, hlt', rfl, ⟨⟨oI, hs₅.extBut _ _ hID zI, hoI⟩, ⟨_, hs₅.extBut _ _ hax1 (N₄' _ hax).1, rfl, k, rfl⟩⟩, F₄.change hs₅ hDL hDh, (hoC.ns zC).sameBut hs₅ (Ne.symm hCD), fun p hp => ?_, hS₅⟩
      rcases List.mem_cons.mp hp with rfl | hp
      · exact ⟨hD₅, hDL, hDh⟩
      · exact ⟨hs₅.extBut _ _ (hDn p hp) (N₄' p hp).1, (N₄' p hp).2⟩
    · obtain rfl : i = its.size := Nat.le_antisymm hi (Nat.not_lt.mp hlt')
      rcases hS' with ⟨h0, _⟩ | ⟨_, ep, rfl⟩
      · omega
      refine W.done _ _ _ hst' fun h₂ tk₂ hk₂ => ?_
      refine ⟨m', hn'.at' fun o e => hk₂ _ o (by simpa using Ne.symm hCI) e, fun h'' hs'' => fin _ ep h'' tk₂ ((fr_but F' hk₂ (Ne.symm hIL) hIh).change hs'' hCL hCh) (fun p hp => ?_) hDn⟩
      have z := news_but N' hk₂ (fun p hp => by
        rcases List.mem_cons.mp hp with rfl | hp
        · exact Ne.symm hID
        · exact hIn p hp) p hp
      refine ⟨hs''.extBut _ _ ?_ z.1, z.2⟩
      rcases List.mem_cons.mp hp with rfl | hp
      · exact hCD
      · exact hCn p hp
  exact codeAny_compStart_set (loop _ rfl) (W.self 0 _ _ _ hst (loop _ rfl))
end
end
/- part M8 -/
theorem freshM8 : True := by
  w_top off
  trivial
section
set_option Elab.async false
set_option maxRecDepth 100000
set_option maxHeartbeats 8000000
set_option linter.unusedVariables false
theorem setiter_owner : Manifest.owners.lookup (String.ofList ['r', 'o', 't', 'a', 'r', 'e', 't', 'i', '_', 't', 'e', 's'].reverse) = some Manifest.sig_set_iterator := by kernel_rfl
theorem slot_setiter_next : Slot "set_iterator" "__next__" "set_iterator.__next__" :=
  .of (owner := "set_iterator") (n := "__next__") (by rw [typeLookup_type, builtinLookup_eq_fast]; kernel_rfl) (by decide +kernel) (by decide +kernel) (by decide +kernel)
    (by first | exact .inl (by decide +kernel) | exact .inr (by decide +kernel)) (by rw [isSubtype_type]; kernel_rfl)
theorem args_setiter_next (a : Value) : argsOk "set_iterator.__next__" ⟨[a], []⟩ := by
  unfold argsOk; rw [signature?_of (id := "set_iterator.__next__") (n := ['_', '_', 't', 'x', 'e', 'n', '_', '_']) (o := ['r', 'o', 't', 'a', 'r', 'e', 't', 'i', '_', 't', 'e', 's']) (by kernel_rfl) setiter_owner]; kernel_rfl
theorem entry_setiter_next : entryFor table "set_iterator.__next__" = some Builtin.«set_iterator.__next__» := entryFor_of_tree (by kernel_rfl)
theorem entry_set_iter : entryFor table "set.__iter__" = some Builtin.«frozenset.__iter__» :=
  entryFor_alias (id' := "frozenset.__iter__") (by kernel_rfl) (by first | rfl | decide +kernel | (unfold String.splitOn; simp +decide [String.splitOnAux])) (by decide +kernel) (by kernel_rfl)
abbrev siO (k i : Nat) (D : Addr) (ep : Nat) : Obj := { cls := .type "set_iterator", dict := none, data := .fields #[rawInt k, rawInt i, .ref D, rawInt 1, rawInt ep], slots := #[] }
def kk (w : World) : Nat := if ledOf w = true then 2 else 0
section
variable {prog : Program} {w : World} {A : Around} {E : Value → Shared → Prop} {s : Shared} {D J : Addr} {ep : Nat}
theorem pyIter_set1 {Q : Value → Shared → Prop} (ho : s.heap.get? D = some (setO #[(1, .bool true)] ep (tab1 (ledOf w))))
    (h : Q (.ref s.heap.objs.size) { s with heap := s.heap.push (siO 0 0 D ep) }) : wpAny (model prog w) A (pyIter (.ref D)) Q E s := by
  have hT : s.TypeIs (.ref D) "set" := ⟨_, ho, rfl⟩
  refine wpAny_pyIter_slot hT PySem.F.slot_set_iter (wpAny_call_entry PySem.F.slot_set_iter hT entry_set_iter ?_ (PySem.F.args_set_iter_1 _))
  show wpAny _ _ (Builtin.Frozenset.sizeOf D >>= _) _ _ _
  unfold Builtin.Frozenset.sizeOf
  refine wpAny_bind (wpAny_bind (wpAny_setEntries_of (t := tab1 (ledOf w)) ho rfl rfl (wpAny_pure ?_)))
  unfold setDrawn
  refine wpAny_bind (wpAny_bind (wpAny_setState_of (t := tab1 (ledOf w)) ho rfl rfl ?_))
  dsimp only
  unfold setsByText
  refine wpAny_bind (wpAny_bind (wpAny_askSetting (wpAny_pure (wpAny_pure ?_))))
  split
  · rename_i hc
    exact absurd (show false = true from (Bool.and_eq_true_iff.mp hc).2) (by decide)
  refine wpAny_bind (wpAny_pure ?_)
  refine wpAny_bind (wpAny_setEpoch_of (t := tab1 (ledOf w)) ho rfl rfl ?_)
  unfold newFields
  refine wpAny_bind (wpAny_newObj_type ?_)
  refine wpAny_pure ⟨_, rfl, "set_iterator", _, ⟨_, Heap.get?_push_size _ rfl, rfl⟩, slot_setiter_next.lookup, h⟩
theorem pick1 (next : Nat → Nat) (x : Int × Value) : pickOrder next #[x] = #[x] := by
  unfold pickOrder
  show pickOrder.go next 1 0 [x] #[] = _
  unfold pickOrder.go
  have e : next 0 % [x].length = 0 := Nat.mod_one _
  rw [e]
  rfl
theorem setNext_1 {slot given : Nat} {Q : Option (Value × Nat) → Shared → Prop} (ho : s.heap.get? D = some (setO #[(1, .bool true)] ep (tab1 (ledOf w))))
    (hc : (slot = 0 ∧ given = 0) ∨ (slot = kk w ∧ given = 1))
    (h : Q (if given = 0 then some (.bool true, kk w) else none) s) : wpAny (model prog w) A (setNext D slot given ep) Q E s := by
  unfold setNext
  refine wpAny_bind (wpAny_setState_of (t := tab1 (ledOf w)) ho rfl rfl ?_)
  dsimp only
  unfold setsByText
  refine wpAny_bind (wpAny_bind (wpAny_askSetting (wpAny_pure ?_)))
  cases hb : w.params.followText "set-order" with
  | true =>
    have hl : ledOf w = false := by unfold ledOf; rw [hb]; rfl
    have hk : kk w = 0 := by unfold kk; rw [hl]; rfl
    rw [if_pos (by exact hb)]
    rw [if_neg (by simp)]
    unfold setWalk
    refine wpAny_bind (wpAny_bind (wpAny_setState_of (t := tab1 (ledOf w)) ho rfl rfl ?_))
    dsimp only
    unfold setsByText
    refine wpAny_bind (wpAny_bind (wpAny_askSetting (wpAny_pure ?_)))
    rw [if_pos (by exact hb)]
    refine wpAny_bind (wpAny_askSetting (wpAny_pure ?_))
    rw [pick1]
    refine wpAny_pure ?_
    rcases hc with ⟨rfl, rfl⟩ | ⟨rfl, rfl⟩
    · rw [hk] at h; exact h
    · exact h
  | false =>
    have hl : ledOf w = true := by unfold ledOf; rw [hb]; rfl
    have hk : kk w = 2 := by unfold kk; rw [hl]; rfl
    rw [if_neg (by rw [show ({ program := (model prog w).prog, params := (model prog w).w.params } : Setting).params.followText "set-order" = false from hb]; exact Bool.false_ne_true)]
    split
    · rename_i hc
      exact absurd (show false = true from hc) (by decide)
    rw [hl]
    refine wpAny_bind (wpAny_pure ?_)
    rcases hc with ⟨rfl, rfl⟩ | ⟨rfl, rfl⟩
    · rw [hk] at h; exact wpAny_pure h
    · rw [hk]; exact wpAny_pure h
theorem set_next_item {Q : Option Value → Shared → Prop} (ho : s.heap.get? D = some (setO #[(1, .bool true)] ep (tab1 (ledOf w)))) (hJ : s.heap.get? J = some (siO 0 0 D ep))
    (h : ∀ h', Heap.SameBut J s.heap h' → h'.get? J = some (siO (kk w) 1 D ep) → Q (some (.bool true)) { s with heap := h' }) : wpAny (model prog w) A (pyNext (.ref J)) Q E s := by
  have hT : s.TypeIs (.ref J) "set_iterator" := ⟨_, hJ, rfl⟩
  unfold pyNext
  refine wpAny_bind (wpAny_attempt (wpAny_callSpecial?_slot (name := Str.ofString "__next__") hT slot_setiter_next
    (wpAny_call_entry slot_setiter_next hT entry_setiter_next ?_ (args_setiter_next _))))
  show wpAny _ _ (fieldsOf (.ref J) >>= _) _ _ _
  unfold fieldsOf
  refine wpAny_bind (wpAny_bind (wpAny_load hJ (wpAny_pure ?_)))
  dsimp only
  refine wpAny_bind (wpAny_setEntries_of (t := tab1 (ledOf w)) ho rfl rfl ?_)
  rw [if_neg (by decide)]
  show wpAny _ _ (setNext D 0 0 ((ep : Int).toNat) >>= _) _ _ _
  rw [Int.toNat_natCast]
  refine wpAny_bind (setNext_1 ho (.inl ⟨rfl, rfl⟩) ?_)
  show wpAny _ _ (setField (Value.ref J) 0 (rawInt (kk w)) >>= fun _ => setField (Value.ref J) 1 (rawInt 1) >>= fun _ => ret (.bool true)) _ _ _
  refine wpAny_bind (wpAny_setField_rec hJ (by simp) fun h1 hz1 hs1 => ?_)
  refine wpAny_bind (wpAny_setField_rec hz1 (by simp) fun h2 hz2 hs2 => ?_)
  exact wpAny_pure ⟨_, rfl, wpAny_pure (h h2 (hs1.trans hs2) hz2)⟩
theorem set_next_end {Q : Option Value → Shared → Prop} (hh : A.handled = none) (ho : s.heap.get? D = some (setO #[(1, .bool true)] ep (tab1 (ledOf w)))) (hJ : s.heap.get? J = some (siO (kk w) 1 D ep))
    (h : ∀ h' tk, (∀ b o, b ≠ J → s.heap.get? b = some o → h'.get? b = some o) → Q none { s with heap := h', toks := tk }) : wpAny (model prog w) A (pyNext (.ref J)) Q E s := by
  have hT : s.TypeIs (.ref J) "set_iterator" := ⟨_, hJ, rfl⟩
  unfold pyNext
  refine wpAny_bind (wpAny_attempt (wpAny_callSpecial?_slot (name := Str.ofString "__next__") hT slot_setiter_next
    (wpAny_call_entry slot_setiter_next hT entry_setiter_next ?_ (args_setiter_next _))))
  show wpAny _ _ (fieldsOf (.ref J) >>= _) _ _ _
  unfold fieldsOf
  refine wpAny_bind (wpAny_bind (wpAny_load hJ (wpAny_pure ?_)))
  dsimp only
  refine wpAny_bind (wpAny_setEntries_of (t := tab1 (ledOf w)) ho rfl rfl ?_)
  rw [if_neg (by decide)]
  show wpAny _ _ (setNext D ((kk w : Nat) : Int).toNat 1 ((ep : Int).toNat) >>= _) _ _ _
  rw [Int.toNat_natCast, Int.toNat_natCast]
  refine wpAny_bind (setNext_1 ho (.inr ⟨rfl, rfl⟩) ?_)
  show wpAny _ _ (setField (Value.ref J) 2 .none >>= fun _ => newExc (.type "StopIteration") [] >>= fun e => raiseNew e) _ _ _
  refine wpAny_bind (wpAny_setField_rec hJ (by simp) fun h1 hz1 hs1 => ?_)
  refine wpAny_bind ?_
  simp only [newExc, newTuple]
  refine wpAny_bind (wpAny_newObj_type ?_ (by size_fits))
  refine wpAny_bind (m := firstArgMember _ _) (wpAny_of_eq (a := Value.none) (by first | rfl | (simp only [firstArgMember]; rfl)) ?_)
  refine wpAny_newObj_type ?_ (by size_fits)
  simp only [raiseNew]
  refine wpAny_bind (wpAny_handled ?_)
  first | rw [show A.in1.handled = none from hh] | rw [hh]
  refine wpAny_bind (wpAny_pure (wpAny_throw ?_))
  refine wpAny_bind (wpAny_isInstance (T := "StopIteration") (b := true) ⟨_, Heap.get?_push_size _ rfl, rfl⟩ isSubtype_stop ?_)
  exact wpAny_pure (h _ _ fun b o hb e => Heap.get?_push_of_some _ (Heap.get?_push_of_some _ ((hs1.2 b hb).trans e)))
theorem assign_set1 {env : Env} {y : Str} {py : Pos} {x1} {pos : Pos} {Q : Unit → Shared → Prop} (hh : A.handled = none) (ho : s.heap.get? D = some (setO #[(1, .bool true)] ep (tab1 (ledOf w))))
    (h : ∀ h' tk, (∀ b o, s.heap.get? b = some o → h'.get? b = some o) → wpAny (model prog w) A (assign (.Name y py) env (.bool true)) Q E { s with heap := h', toks := tk }) :
    wpAny (model prog w) A (assign (.Tuple [.Name y py] x1 pos) env (.ref D)) Q E s := by
  have hT : s.TypeIs (.ref D) "set" := ⟨_, ho, rfl⟩
  have hne : D ≠ s.heap.objs.size := Nat.ne_of_lt (Heap.lt_size ho)
  rw [arm_assign_Tuple]
  refine wpAny_bind (wpAny_standAt ?_)
  show wpAny _ _ (unpack (.ref D) [(false, assign (.Name y py) env)]) _ _ _
  unfold unpack
  refine wpAny_bind (wpAny_holding ?_)
  show wpAny _ _ (unpackItems (.ref D) 1 none) _ _ _
  unfold unpackItems
  refine wpAny_bind ?_
  unfold notIterableAtAll
  refine wpAny_bind (wpAny_specialOf hT PySem.F.slot_set_iter.lookup ?_)
  refine wpAny_pure ?_
  simp only [Bool.false_eq_true, if_false]
  refine wpAny_bind (wpAny_holding (pyIter_set1 ho ?_))
  have ho1 : (s.heap.push (siO 0 0 D ep)).get? D = some (setO #[(1, .bool true)] ep (tab1 (ledOf w))) := Heap.get?_push_of_some _ ho
  refine wpAny_bind (wpAny_holding ?_)
  show wpAny _ _ (pyNext (.ref s.heap.objs.size) >>= _) _ _ _
  refine wpAny_bind (set_next_item ho1 (Heap.get?_push_size _ rfl) fun h1 hs1 hJ1 => ?_)
  refine wpAny_bind (wpAny_holding (wpAny_pure (wpAny_pure ?_)))
  rw [if_neg (by simp)]
  have ho2 : h1.get? D = some (setO #[(1, .bool true)] ep (tab1 (ledOf w))) := (hs1.2 D hne).trans ho1
  refine wpAny_bind (wpAny_holding (set_next_end hh ho2 hJ1 fun h2 tk2 hk2 => ?_))
  simp only [Option.isSome_none, Bool.false_eq_true, if_false]
  refine wpAny_pure ?_
  show wpAny _ _ (holding [] (assign (.Name y py) env (.bool true)) >>= fun _ => assignInOrder [] []) _ _ _
  refine wpAny_bind (wpAny_holding (wpAny_mono (h h2 tk2 fun b o e => ?_) (fun _ _ q => wpAny_pure q) fun _ _ e => e))
  have hb : b ≠ s.heap.objs.size := Nat.ne_of_lt (Heap.lt_size e)
  exact hk2 b o hb ((hs1.2 b hb).trans (Heap.get?_push_of_some _ e))
end
end
/- part M9 -/
theorem freshM9 : True := by
  w_top off
  trivial
section
set_option Elab.async false
set_option maxRecDepth 100000
set_option maxHeartbeats 8000000
set_option linter.unusedVariables false
section
variable {prog : Program} {w : World} {A : Around} {E : Value → Shared → Prop} {s : Shared}

theorem min_loop2 {I S l : Addr} {v1 v2 : Value} {b : Bool} {R : Result → Shared → Prop} (hh : A.handled = none) (hlI : l ≠ I) (hSI : S ≠ I) (hlS : l ≠ S) (s : Shared)
    (hit : s.heap.IsListIter I l 0) (hl : s.heap.IsList l #[v1, v2]) {c : Nat} (hS : s.heap.get? S = some { cls := .type "list", dict := none, data := .seq #[] c, slots := #[] })
    (hc : ∀ h tk, (∀ a o, a ≠ I → a ≠ S → s.heap.get? a = some o → h.get? a = some o) → OcAt .Lt A.in1 { s with heap := h, toks := tk } v2 v1 b)
    (hR : ∀ h tk, (∀ a o, a ≠ I → a ≠ S → s.heap.get? a = some o → h.get? a = some o) → R (.ok (.ret (if b = true then v2 else v1))) { s with heap := h, toks := tk }) :
    codeAny (model prog w) A (.builtin "min.loop" ⟨[.ref I, .none, .ref S], []⟩) R s := by
  have hname : (toString "min" ++ toString ".loop" : String) = "min.loop" := by decide
  have W := Walks.list (prog := prog) (w := w) (A := A.in1) hh I l hlI #[v1, v2]
  refine codeAny_builtin PySem.F.entry_min_loop ?_
  rw [Around.under_plainId PySem.F.plain_min_loop _]
  show wpAny _ A.in1 (seqItems? (.ref S) >>= _) _ _ s
  refine wpAny_bind (wpAny_seqItems hS rfl ?_)
  show wpAny _ A.in1 (tryCatch (pyNext (.ref I)) _ >>= _) _ _ s
  refine wpAny_bind (wpAny_tryCatch (W.item 0 s _ _ (by show 0 < 2; decide) ⟨hit, hl⟩ fun v h1 tk1 hP hst1 hk1 => ?_))
  obtain rfl : v1 = v := by simpa using hP
  have hS1 := hk1 S _ (by simpa using hSI) hS
  show wpAny _ A.in1 (updateSeq S (fun _ => #[v1, v1]) >>= _) _ _ _
  refine wpAny_bind ?_
  refine wpAny_updateSeq hS1 rfl ?_
  have sb1 := Heap.SameBut.update h1 S (Obj.mapSeq fun _ => #[v1, v1])
  obtain ⟨c1, hS2⟩ : ∃ c1, (h1.update S (Obj.mapSeq fun _ => #[v1, v1])).get? S = some (seqObj "list" #[v1, v1] c1) := ⟨_, get?_update_seq hS1 fun _ => #[v1, v1]⟩
  generalize h1.update S (Obj.mapSeq fun _ => #[v1, v1]) = h2 at sb1 hS2
  have hst2 : h2.IsListIter I l 1 ∧ h2.IsList l #[v1, v2] := W.frame _ _ _ hst1 fun a ha o e => (sb1.2 a (by
    simp only [List.mem_cons, List.not_mem_nil, or_false] at ha
    rcases ha with rfl | rfl
    · exact Ne.symm hSI
    · exact hlS)).trans e
  have hk2 : ∀ a o, a ≠ I → a ≠ S → s.heap.get? a = some o → h2.get? a = some o := fun a o h1' h2' e => (sb1.2 a h2').trans (hk1 a o (by simpa using h1') e)
  rw [hname]
  refine wpAny_pure ⟨plainId_quiet PySem.F.plain_min_loop _, codeAny_builtin PySem.F.entry_min_loop ?_⟩
  rw [Around.under_plainId PySem.F.plain_min_loop _]
  show wpAny _ A.in1 (seqItems? (.ref S) >>= _) _ _ _
  refine wpAny_bind (wpAny_seqItems hS2 rfl ?_)
  show wpAny _ A.in1 (tryCatch (pyNext (.ref I)) _ >>= _) _ _ _
  refine wpAny_bind (wpAny_tryCatch (W.item 1 _ _ _ (by show 1 < 2; decide) hst2 fun v h3 tk3 hP hst3 hk3 => ?_))
  obtain rfl : v2 = v := by simpa using hP
  have hS3 := hk3 S _ (by simpa using hSI) hS2
  have hk4 : ∀ a o, a ≠ I → a ≠ S → s.heap.get? a = some o → h3.get? a = some o := fun a o h1' h2' e => hk3 a o (by simpa using h1') (hk2 a o h1' h2' e)
  show wpAny _ A.in1 (tryCatch (holding [v2, v2] (richCompare .Lt v2 v1 >>= _)) _ >>= _) _ _ _
  refine wpAny_bind (wpAny_tryCatch (wpAny_holding (wpAny_bind (hc h3 tk3 hk4 _ _ _ _ ?_))))
  refine wpAny_bind (wpAny_holding (wpAny_truthy_bool ?_))
  refine wpAny_bind (wpAny_letGo (wpAny_pure ?_))
  have last : ∀ (h5 : Heap) (tk5 : Nat) (x : Value) (c5 : Nat), (h5.IsListIter I l 2 ∧ h5.IsList l #[v1, v2]) → h5.get? S = some (seqObj "list" #[x, x] c5) → (∀ a o, a ≠ I → a ≠ S → s.heap.get? a = some o → h5.get? a = some o) → x = (if b = true then v2 else v1) →
      codeAny (model prog w) A (.builtin "min.loop" ⟨[.ref I, .none, .ref S], []⟩) R { s with heap := h5, toks := tk5 } := by
    intro h5 tk5 x c5 hst5 hS5 hk5 hx
    refine codeAny_builtin PySem.F.entry_min_loop ?_
    rw [Around.under_plainId PySem.F.plain_min_loop _]
    show wpAny _ A.in1 (seqItems? (.ref S) >>= _) _ _ _
    refine wpAny_bind (wpAny_seqItems hS5 rfl ?_)
    show wpAny _ A.in1 (tryCatch (pyNext (.ref I)) _ >>= _) _ _ _
    refine wpAny_bind (wpAny_tryCatch (W.done _ _ _ hst5 fun h6 tk6 hk6 => ?_))
    have hS6 := hk6 S _ (by simpa using hSI) hS5
    show wpAny _ A.in1 (updateSeq S (fun _ => #[]) >>= _) _ _ _
    refine wpAny_bind ?_
    refine wpAny_updateSeq hS6 rfl (wpAny_bind (wpAny_letGo (wpAny_pure ?_)))
    rw [hx]
    exact hR _ _ fun a o h1' h2' e => (Heap.get?_update_other _ _ (Ne.symm h2')).trans (hk6 a o (by simpa using h1') (hk5 a o h1' h2' e))
  cases b with
  | true =>
    simp only [if_true]
    refine wpAny_bind ?_
    refine wpAny_updateSeq hS3 rfl (wpAny_bind (wpAny_letGo ?_))
    rw [hname]
    have sb3 := Heap.SameBut.update h3 S (Obj.mapSeq fun _ => #[v2, v2])
    obtain ⟨c3, hS4⟩ : ∃ c1, (h3.update S (Obj.mapSeq fun _ => #[v2, v2])).get? S = some (seqObj "list" #[v2, v2] c1) := ⟨_, get?_update_seq hS3 fun _ => #[v2, v2]⟩
    refine wpAny_pure ⟨plainId_quiet PySem.F.plain_min_loop _, last _ _ v2 c3 (W.frame _ _ _ hst3 fun a ha o e => (sb3.2 a (by
      simp only [List.mem_cons, List.not_mem_nil, or_false] at ha
      rcases ha with rfl | rfl
      · exact Ne.symm hSI
      · exact hlS)).trans e) hS4 (fun a o h1' h2' e => (sb3.2 a h2').trans (hk4 a o h1' h2' e)) rfl⟩
  | false =>
    simp only [Bool.false_eq_true, if_false]
    refine wpAny_bind (wpAny_letGo ?_)
    rw [hname]
    exact wpAny_pure ⟨plainId_quiet PySem.F.plain_min_loop _, last _ _ v1 c1 hst3 hS3 hk4 rfl⟩
theorem call_min2 {h₀ : Heap} {L l : Addr} {m : Str → Option Value} {news : List (Addr × Obj)} {v1 v2 : Value} {n0 : Nat} {b : Bool} {Q : Value → Shared → Prop} (hh : A.handled = none) (F : Fr h₀ L s.heap m) (N : News h₀ L s.heap news) (hl : (l, listOf #[v1, v2] n0) ∈ news)
    (hc : ∀ h tk, News h₀ L h news → OcAt .Lt A.in1 { s with heap := h, toks := tk } v2 v1 b)
    (h : ∀ h' tk, Fr h₀ L h' m → News h₀ L h' news → Q (if b = true then v2 else v1) { s with heap := h', toks := tk }) :
    wpAny (model prog w) A (call (.builtin "min") [.ref l]) Q E s := by
  have hname : (toString "min" ++ toString ".loop" : String) = "min.loop" := by decide
  have hl0 : s.heap.IsList l #[v1, v2] := ⟨_, (N _ hl).1, rfl, n0, rfl⟩
  have hlt : l < s.heap.objs.size := Heap.lt_size (N _ hl).1
  refine call_function_tree PySem.F.kind_min PySem.F.plain_min PySem.F.entry_min (PySem.F.args_min1 _) ?_
  show wpAny _ A.in1 (Builtin.Builtins.bindParams "min" ["key", "default"] 0 ⟨[], []⟩ >>= _) _ _ s
  refine wpAny_bind (wpAny_of_eq (show Builtin.Builtins.bindParams "min" ["key", "default"] 0 ⟨[], []⟩ = pure [none, none] from rfl) ?_)
  refine wpAny_bind (wpAny_pure ?_)
  refine wpAny_bind (wpAny_pyIter_list hl0 ?_)
  refine wpAny_bind (wpAny_newObj_type ?_)
  rw [hname]
  have hz : (s.heap.push { cls := .type "list_iterator", data := .fields #[.ref l, .int 0 0] }).objs.size = s.heap.objs.size + 1 := Heap.size_push ..
  have up1 : ∀ a o, s.heap.get? a = some o → (s.heap.push { cls := .type "list_iterator", data := .fields #[.ref l, .int 0 0] }).get? a = some o := fun a o e => Heap.get?_push_of_some _ e
  have hI : (s.heap.push { cls := .type "list_iterator", data := .fields #[.ref l, .int 0 0] }).IsListIter s.heap.objs.size l 0 := ⟨_, Heap.get?_push_size _ rfl, rfl, rfl⟩
  generalize s.heap.push { cls := .type "list_iterator", data := .fields #[.ref l, .int 0 0] } = H1 at hz up1 hI
  have old : ∀ h' : Heap, (∀ a o, a ≠ s.heap.objs.size → a ≠ H1.objs.size → (H1.push { cls := .type "list", data := .seq #[] }).get? a = some o → h'.get? a = some o) → ∀ a o, s.heap.get? a = some o → h'.get? a = some o := fun h' hk a o e => by
    have ha := Heap.lt_size e
    exact hk a o (Nat.ne_of_lt ha) (by rw [hz]; exact Nat.ne_of_lt (Nat.lt_succ_of_lt ha)) (Heap.get?_push_of_some _ (up1 _ _ e))
  refine wpAny_pure ⟨plainId_quiet PySem.F.plain_min_loop _, min_loop2 (I := s.heap.objs.size) (S := H1.objs.size) (l := l) (v1 := v1) (v2 := v2) (b := b) (c := 0) hh (Nat.ne_of_lt hlt) (by rw [hz]; exact Nat.ne_of_gt (Nat.lt_succ_self _)) (by rw [hz]; exact Nat.ne_of_lt (Nat.lt_succ_of_lt hlt)) _ (hI.at fun o e => Heap.get?_push_of_some _ e) ⟨_, Heap.get?_push_of_some _ (up1 _ _ (N _ hl).1), rfl, n0, rfl⟩ (Heap.get?_push_size _ rfl) ?_ ?_⟩
  · intro h' tk hk
    exact hc h' tk (N.grown (old h' hk))
  · intro h' tk hk
    exact h h' tk (F.keeps (old h' hk)) (N.grown (old h' hk))

theorem max_loop2 {I S l : Addr} {v1 v2 : Value} {b : Bool} {R : Result → Shared → Prop} (hh : A.handled = none) (hlI : l ≠ I) (hSI : S ≠ I) (hlS : l ≠ S) (s : Shared)
    (hit : s.heap.IsListIter I l 0) (hl : s.heap.IsList l #[v1, v2]) {c : Nat} (hS : s.heap.get? S = some { cls := .type "list", dict := none, data := .seq #[] c, slots := #[] })
    (hc : ∀ h tk, (∀ a o, a ≠ I → a ≠ S → s.heap.get? a = some o → h.get? a = some o) → OcAt .Gt A.in1 { s with heap := h, toks := tk } v2 v1 b)
    (hR : ∀ h tk, (∀ a o, a ≠ I → a ≠ S → s.heap.get? a = some o → h.get? a = some o) → R (.ok (.ret (if b = true then v2 else v1))) { s with heap := h, toks := tk }) :
    codeAny (model prog w) A (.builtin "max.loop" ⟨[.ref I, .none, .ref S], []⟩) R s := by
  have hname : (toString "max" ++ toString ".loop" : String) = "max.loop" := by decide
  have W := Walks.list (prog := prog) (w := w) (A := A.in1) hh I l hlI #[v1, v2]
  refine codeAny_builtin PySem.F.entry_max_loop ?_
  rw [Around.under_plainId PySem.F.plain_max_loop _]
  show wpAny _ A.in1 (seqItems? (.ref S) >>= _) _ _ s
  refine wpAny_bind (wpAny_seqItems hS rfl ?_)
  show wpAny _ A.in1 (tryCatch (pyNext (.ref I)) _ >>= _) _ _ s
  refine wpAny_bind (wpAny_tryCatch (W.item 0 s _ _ (by show 0 < 2; decide) ⟨hit, hl⟩ fun v h1 tk1 hP hst1 hk1 => ?_))
  obtain rfl : v1 = v := by simpa using hP
  have hS1 := hk1 S _ (by simpa using hSI) hS
  show wpAny _ A.in1 (updateSeq S (fun _ => #[v1, v1]) >>= _) _ _ _
  refine wpAny_bind ?_
  refine wpAny_updateSeq hS1 rfl ?_
  have sb1 := Heap.SameBut.update h1 S (Obj.mapSeq fun _ => #[v1, v1])
  obtain ⟨c1, hS2⟩ : ∃ c1, (h1.update S (Obj.mapSeq fun _ => #[v1, v1])).get? S = some (seqObj "list" #[v1, v1] c1) := ⟨_, get?_update_seq hS1 fun _ => #[v1, v1]⟩
  generalize h1.update S (Obj.mapSeq fun _ => #[v1, v1]) = h2 at sb1 hS2
  have hst2 : h2.IsListIter I l 1 ∧ h2.IsList l #[v1, v2] := W.frame _ _ _ hst1 fun a ha o e => (sb1.2 a (by
    simp only [List.mem_cons, List.not_mem_nil, or_false] at ha
    rcases ha with rfl | rfl
    · exact Ne.symm hSI
    · exact hlS)).trans e
  have hk2 : ∀ a o, a ≠ I → a ≠ S → s.heap.get? a = some o → h2.get? a = some o := fun a o h1' h2' e => (sb1.2 a h2').trans (hk1 a o (by simpa using h1') e)
  rw [hname]
  refine wpAny_pure ⟨plainId_quiet PySem.F.plain_max_loop _, codeAny_builtin PySem.F.entry_max_loop ?_⟩
  rw [Around.under_plainId PySem.F.plain_max_loop _]
  show wpAny _ A.in1 (seqItems? (.ref S) >>= _) _ _ _
  refine wpAny_bind (wpAny_seqItems hS2 rfl ?_)
  show wpAny _ A.in1 (tryCatch (pyNext (.ref I)) _ >>= _) _ _ _
  refine wpAny_bind (wpAny_tryCatch (W.item 1 _ _ _ (by show 1 < 2; decide) hst2 fun v h3 tk3 hP hst3 hk3 => ?_))
  obtain rfl : v2 = v := by simpa using hP
  have hS3 := hk3 S _ (by simpa using hSI) hS2
  have hk4 : ∀ a o, a ≠ I → a ≠ S → s.heap.get? a = some o → h3.get? a = some o := fun a o h1' h2' e => hk3 a o (by simpa using h1') (hk2 a o h1' h2' e)
  show wpAny _ A.in1 (tryCatch (holding [v2, v2] (richCompare .Gt v2 v1 >>= _)) _ >>= _) _ _ _
  refine wpAny_bind (wpAny_tryCatch (wpAny_holding (wpAny_bind (hc h3 tk3 hk4 _ _ _ _ ?_))))
  refine wpAny_bind (wpAny_holding (wpAny_truthy_bool ?_))
  refine wpAny_bind (wpAny_letGo (wpAny_pure ?_))
  have last : ∀ (h5 : Heap) (tk5 : Nat) (x : Value) (c5 : Nat), (h5.IsListIter I l 2 ∧ h5.IsList l #[v1, v2]) → h5.get? S = some (seqObj "list" #[x, x] c5) → (∀ a o, a ≠ I → a ≠ S → s.heap.get? a = some o → h5.get? a = some o) → x = (if b = true then v2 else v1) →
      codeAny (model prog w) A (.builtin "max.loop" ⟨[.ref I, .none, .ref S], []⟩) R { s with heap := h5, toks := tk5 } := by
    intro h5 tk5 x c5 hst5 hS5 hk5 hx
    refine codeAny_builtin PySem.F.entry_max_loop ?_
    rw [Around.under_plainId PySem.F.plain_max_loop _]
    show wpAny _ A.in1 (seqItems? (.ref S) >>= _) _ _ _
    refine wpAny_bind (wpAny_seqItems hS5 rfl ?_)
    show wpAny _ A.in1 (tryCatch (pyNext (.ref I)) _ >>= _) _ _ _
    refine wpAny_bind (wpAny_tryCatch (W.done _ _ _ hst5 fun h6 tk6 hk6 => ?_))
    have hS6 := hk6 S _ (by simpa using hSI) hS5
    show wpAny _ A.in1 (updateSeq S (fun _ => #[]) >>= _) _ _ _
    refine wpAny_bind ?_
    refine wpAny_updateSeq hS6 rfl (wpAny_bind (wpAny_letGo (wpAny_pure ?_)))
    rw [hx]
    exact hR _ _ fun a o h1' h2' e => (Heap.get?_update_other _ _ (Ne.symm h2')).trans (hk6 a o (by simpa using h1') (hk5 a o h1' h2' e))
  cases b with
  | true =>
    simp only [if_true]
    refine wpAny_bind ?_
    refine wpAny_updateSeq hS3 rfl (wpAny_bind (wpAny_letGo ?_))
    rw [hname]
    have sb3 := Heap.SameBut.update h3 S (Obj.mapSeq fun _ => #[v2, v2])
    obtain ⟨c3, hS4⟩ : ∃ c1, (h3.update S (Obj.mapSeq fun _ => #[v2, v2])).get? S = some (seqObj "list" #[v2, v2] c1) := ⟨_, get?_update_seq hS3 fun _ => #[v2, v2]⟩
    refine wpAny_pure ⟨plainId_quiet PySem.F.plain_max_loop _, last _ _ v2 c3 (W.frame _ _ _ hst3 fun a ha o e => (sb3.2 a (by
      simp only [List.mem_cons, List.not_mem_nil, or_false] at ha
      rcases ha with rfl | rfl
      · exact Ne.symm hSI
      · exact hlS)).trans e) hS4 (fun a o h1' h2' e => (sb3.2 a h2').trans (hk4 a o h1' h2' e)) rfl⟩
  | false =>
    simp only [Bool.false_eq_true, if_false]
    refine wpAny_bind (wpAny_letGo ?_)
    rw [hname]
    exact wpAny_pure ⟨plainId_quiet PySem.F.plain_max_loop _, last _ _ v1 c1 hst3 hS3 hk4 rfl⟩
theorem call_max2 {h₀ : Heap} {L l : Addr} {m : Str → Option Value} {news : List (Addr × Obj)} {v1 v2 : Value} {n0 : Nat} {b : Bool} {Q : Value → Shared → Prop} (hh : A.handled = none) (F : Fr h₀ L s.heap m) (N : News h₀ L s.heap news) (hl : (l, listOf #[v1, v2] n0) ∈ news)
    (hc : ∀ h tk, News h₀ L h news → OcAt .Gt A.in1 { s with heap := h, toks := tk } v2 v1 b)
    (h : ∀ h' tk, Fr h₀ L h' m → News h₀ L h' news → Q (if b = true then v2 else v1) { s with heap := h', toks := tk }) :
    wpAny (model prog w) A (call (.builtin "max") [.ref l]) Q E s := by
  have hname : (toString "max" ++ toString ".loop" : String) = "max.loop" := by decide
  have hl0 : s.heap.IsList l #[v1, v2] := ⟨_, (N _ hl).1, rfl, n0, rfl⟩
  have hlt : l < s.heap.objs.size := Heap.lt_size (N _ hl).1
  refine call_function_tree PySem.F.kind_max PySem.F.plain_max PySem.F.entry_max (PySem.F.args_max1 _) ?_
  show wpAny _ A.in1 (Builtin.Builtins.bindParams "max" ["key", "default"] 0 ⟨[], []⟩ >>= _) _ _ s
  refine wpAny_bind (wpAny_of_eq (show Builtin.Builtins.bindParams "max" ["key", "default"] 0 ⟨[], []⟩ = pure [none, none] from rfl) ?_)
  refine wpAny_bind (wpAny_pure ?_)
  refine wpAny_bind (wpAny_pyIter_list hl0 ?_)
  refine wpAny_bind (wpAny_newObj_type ?_)
  rw [hname]
  have hz : (s.heap.push { cls := .type "list_iterator", data := .fields #[.ref l, .int 0 0] }).objs.size = s.heap.objs.size + 1 := Heap.size_push ..
  have up1 : ∀ a o, s.heap.get? a = some o → (s.heap.push { cls := .type "list_iterator", data := .fields #[.ref l, .int 0 0] }).get? a = some o := fun a o e => Heap.get?_push_of_some _ e
  have hI : (s.heap.push { cls := .type "list_iterator", data := .fields #[.ref l, .int 0 0] }).IsListIter s.heap.objs.size l 0 := ⟨_, Heap.get?_push_size _ rfl, rfl, rfl⟩
  generalize s.heap.push { cls := .type "list_iterator", data := .fields #[.ref l, .int 0 0] } = H1 at hz up1 hI
  have old : ∀ h' : Heap, (∀ a o, a ≠ s.heap.objs.size → a ≠ H1.objs.size → (H1.push { cls := .type "list", data := .seq #[] }).get? a = some o → h'.get? a = some o) → ∀ a o, s.heap.get? a = some o → h'.get? a = some o := fun h' hk a o e => by
    have ha := Heap.lt_size e
    exact hk a o (Nat.ne_of_lt ha) (by rw [hz]; exact Nat.ne_of_lt (Nat.lt_succ_of_lt ha)) (Heap.get?_push_of_some _ (up1 _ _ e))
  refine wpAny_pure ⟨plainId_quiet PySem.F.plain_max_loop _, max_loop2 (I := s.heap.objs.size) (S := H1.objs.size) (l := l) (v1 := v1) (v2 := v2) (b := b) (c := 0) hh (Nat.ne_of_lt hlt) (by rw [hz]; exact Nat.ne_of_gt (Nat.lt_succ_self _)) (by rw [hz]; exact Nat.ne_of_lt (Nat.lt_succ_of_lt hlt)) _ (hI.at fun o e => Heap.get?_push_of_some _ e) ⟨_, Heap.get?_push_of_some _ (up1 _ _ (N _ hl).1), rfl, n0, rfl⟩ (Heap.get?_push_size _ rfl) ?_ ?_⟩
  · intro h' tk hk
    exact hc h' tk (N.grown (old h' hk))
  · intro h' tk hk
    exact h h' tk (F.keeps (old h' hk)) (N.grown (old h' hk))
theorem gtAt_texts {a b : Addr} {ps qs : List (Str × Tok)} (hl : s.heap.IsList a (tv ps).toArray) (hb : s.heap.IsList b (tv qs).toArray) (hu : A.units < cLine) :
    OcAt .Gt A s (.ref a) (.ref b) (ltL (qs.map (·.1)) (ps.map (·.1))) := by
  have h := OcAt.gt_lists (e := fun j => (ps.map (·.1)).getD j Str.empty == (qs.map (·.1)).getD j Str.empty) (c := fun j => ltS ((qs.map (·.1)).getD j Str.empty) ((ps.map (·.1)).getD j Str.empty)) hl hb hu
    (fun j h1 h2 => eqAt_tv j h1 h2) (fun j h1 h2 _ => by
      obtain ⟨t, e1⟩ := tv_item h1
      obtain ⟨u, e2⟩ := tv_item h2
      rw [e1, e2]
      exact OcAt.gt_str)
  have e9 : (fun j => (ps.map (·.1)).getD j Str.empty == (qs.map (·.1)).getD j Str.empty) = (fun j => (qs.map (·.1)).getD j Str.empty == (ps.map (·.1)).getD j Str.empty) := by
    funext j
    rw [Bool.eq_iff_iff, beq_iff_eq, beq_iff_eq]
    exact ⟨Eq.symm, Eq.symm⟩
  rw [size_tv, size_tv, Nat.min_comm, e9] at h
  have h2 := lexB_ltL (qs.map (·.1)) (ps.map (·.1)) _ 0 (Nat.sub_zero _) (Nat.zero_le _)
  rw [List.drop_zero, List.drop_zero] at h2
  rw [← h2]
  exact h
end
end
/- part M10 -/
theorem freshM10 : True := by
  w_top off
  trivial
section
set_option Elab.async false
set_option maxRecDepth 100000
set_option maxHeartbeats 8000000
set_option linter.unusedVariables false
def StillE (h₀ : Heap) (L : Addr) (xi xc : Str) (m : Str → Option Value) (led : List (Addr × Obj)) (J : Prop) (s s₂ : Shared) : Prop :=
  J ∧ ∃ h' tk' vc vi, s₂ = { s with heap := h', toks := tk' } ∧ Fr h₀ L h' (fun y => if y = xc then vc else if y = xi then vi else m y) ∧ News h₀ L h' led
def StillQ (h₀ : Heap) (L : Addr) (xi xc : Str) (m : Str → Option Value) (led : List (Addr × Obj)) (J : Prop) (Q : Flow → Shared → Prop) (s : Shared) (f : Flow) (s₂ : Shared) : Prop :=
  match f with
  | .ret v => Q (.ret v) s₂
  | .brk => Q .next s₂
  | _ => StillE h₀ L xi xc m led J s s₂
section
variable {prog : Program} {w : World} {A : Around} {E : Value → Shared → Prop} {s : Shared} {env : Env} {h₀ : Heap} {xi xc : Str} {body : List Stmt} {Q : Flow → Shared → Prop}
/-- a for loop over enumerate(list) whose turns change nothing but the loop's own names -/
theorem enum_still {l : Addr} {vs : List Value} {n0 : Nat} {m : Str → Option Value} {news : List (Addr × Obj)} (hh : A.handled = none) (J : Nat → Prop) (F : Fr h₀ env.locals s.heap m) (N : News h₀ env.locals s.heap news) (hl : (l, listOf vs.toArray n0) ∈ news) (h0 : J 0)
    (turn : ∀ (i : Nat) v t h tk own, vs[i]? = some v → J i → Fr h₀ env.locals h (fun y => if y = xc then some v else if y = xi then some (.int i t) else m y) → News h₀ env.locals h (own ++ news) →
      wpAny (model prog w) A (execs body env) (StillQ h₀ env.locals xi xc m (own ++ news) (J (i + 1)) Q { s with heap := h, toks := tk }) E { s with heap := h, toks := tk })
    (done : ∀ h tk vc vi, J vs.length → Fr h₀ env.locals h (fun y => if y = xc then vc else if y = xi then vi else m y) → News h₀ env.locals h news → Q .next { s with heap := h, toks := tk }) :
    wpAny (model prog w) A (call (.type "enumerate") [.ref l]) (fun xv s₁ => wpAny (model prog w) A (pyIter xv) (fun it s₂ => PairAt3 prog w A h₀ env xi xc body Q E it s₂) E s₁) E s := by
  have nl := N _ hl
  have hlt : l < s.heap.objs.size := Heap.lt_size nl.1
  have hLt : env.locals < s.heap.objs.size := F.ns.lt
  refine call_enumerate_1 nl.1 fun h' he hit hsz hk => ?_
  refine wpAny_pyIter_enum he ?_
  have F1 : Fr h₀ env.locals h' m := F.keeps hk
  have N1 : News h₀ env.locals h' news := N.grown hk
  have hfresh : ∀ a, s.heap.objs.size ≤ a → h₀.get? a = none := fun a ha => by
    cases e : h₀.get? a with
    | none => rfl
    | some o => exact absurd (Heap.lt_size (F.keep a o e)) (Nat.not_lt.mpr ha)
  have hnn : ∀ p ∈ news, p.1 < s.heap.objs.size := fun p hp => Heap.lt_size (N p hp).1
  have hwr : ∀ b ∈ [s.heap.objs.size + 1, s.heap.objs.size], s.heap.objs.size ≤ b := fun b hb => by
    simp only [List.mem_cons, List.not_mem_nil, or_false] at hb
    rcases hb with rfl | rfl
    · exact Nat.le_succ _
    · exact Nat.le_refl _
  refine ⟨s.heap.objs.size + 1, [s.heap.objs.size + 1, s.heap.objs.size, l], [s.heap.objs.size + 1, s.heap.objs.size], vs.toArray.size, _, _, _, (fun i v0 v1 => ∃ t, vs[i]? = some v1 ∧ v0 = .int i t), m, news,
    (fun i m₁ nw => nw = news ∧ J i ∧ ∃ vc vi, m₁ = fun y => if y = xc then vc else if y = xi then vi else m y), rfl, WalksT.enumerate hh (s.heap.objs.size + 1) s.heap.objs.size l (Nat.succ_ne_self _) (Nat.ne_of_lt (Nat.lt_succ_of_lt hlt)) (Nat.ne_of_lt hlt) vs.toArray, ?_, ?_, ?_, ?_, ⟨⟨_, he⟩, hit, ⟨_, (N1 _ hl).1, rfl, n0, rfl⟩⟩, F1, N1, ⟨rfl, h0, m xc, m xi, ?_⟩, ?_, ?_⟩
  · rintro i vals ⟨t, x, hx, rfl⟩
    exact ⟨_, _, rfl, t, by simpa using hx, rfl⟩
  · intro hm
    simp only [List.mem_cons, List.not_mem_nil, or_false] at hm
    rcases hm with hm | hm | hm
    · exact Nat.ne_of_lt (Nat.lt_succ_of_lt hLt) hm
    · exact Nat.ne_of_lt hLt hm
    · exact nl.2.1 hm.symm
  · exact fun b hb => hfresh b (hwr b hb)
  · exact fun p hp hb => absurd (hnn p hp) (Nat.not_lt.mpr (hwr _ hb))
  · funext y
    split
    · rename_i e; rw [e]
    · split
      · rename_i e; rw [e]
      · rfl
  · rintro i v0 v1 m₁ news₁ s₁ own ⟨h1, tk1, rfl⟩ hi ⟨t, hv, rfl⟩ ⟨rfl, hJ, vc, vi, rfl⟩ _ hown F2 N2
    have e9 : (fun y => if y = xc then some v1 else if y = xi then some (Value.int i t) else if y = xc then vc else if y = xi then vi else m y) = (fun y => if y = xc then some v1 else if y = xi then some (Value.int i t) else m y) := by
      funext y
      by_cases h1 : y = xc
      · simp [h1]
      · by_cases h2 : y = xi
        · simp [h2]
        · simp [h1, h2]
    rw [e9] at F2
    refine wpAny_mono (turn i v1 t h1 tk1 own hv hJ F2 N2) (fun f s₂ q => ?_) fun _ _ e => e
    cases f with
    | ret v => exact q
    | brk => exact q
    | next =>
      obtain ⟨hJ', h2, tk2, vc', vi', rfl, F3, N3⟩ := q
      exact ⟨rfl, h2, tk2, _, _, rfl, F3, N3, rfl, rfl, hJ', vc', vi', rfl⟩
    | cont =>
      obtain ⟨hJ', h2, tk2, vc', vi', rfl, F3, N3⟩ := q
      exact ⟨rfl, h2, tk2, _, _, rfl, F3, N3, rfl, rfl, hJ', vc', vi', rfl⟩
  · rintro h2 tk2 m' news' F3 N3 _ ⟨rfl, hJ, vc, vi, rfl⟩
    have e : vs.toArray.size = vs.length := by simp
    rw [e] at hJ
    exact done h2 tk2 vc vi hJ F3 N3
end
def lcpF : List Str → List Str → List Str
  | x :: xs, y :: ys => if (x == y) = true then x :: lcpF xs ys else []
  | _, _ => []
theorem ltL_irr : ∀ l, ltL l l = false
  | [] => rfl
  | x :: xs => by unfold ltL; rw [if_pos (beq_self_eq_true x)]; exact ltL_irr xs
theorem lcp_step : ∀ (i : Nat) (A B : List Str) (c : Str), ltL B A = false → (∀ j, j < i → A[j]? = B[j]?) → A[i]? = some c → ∃ d, B[i]? = some d ∧ ((c == d) = false → lcpF A B = A.take i)
  | 0, [], B, c, h, _, hc => by simp at hc
  | 0, a :: A, [], c, h, _, hc => by simp [ltL] at h
  | 0, a :: A, b :: B, c, h, _, hc => by
    refine ⟨b, rfl, fun hne => ?_⟩
    simp only [List.getElem?_cons_zero, Option.some.injEq] at hc
    subst hc
    unfold lcpF
    rw [hne]
    simp
  | i + 1, [], B, c, h, _, hc => by simp at hc
  | i + 1, a :: A, [], c, h, _, hc => by simp [ltL] at h
  | i + 1, a :: A, b :: B, c, h, heq, hc => by
    have e0 : a = b := by simpa using heq 0 (Nat.succ_pos _)
    subst e0
    unfold ltL at h
    rw [if_pos (beq_self_eq_true a)] at h
    obtain ⟨d, hd, hl⟩ := lcp_step i A B c h (fun j hj => by simpa using heq (j + 1) (Nat.succ_lt_succ hj)) (by simpa using hc)
    refine ⟨d, by simpa using hd, fun hne => ?_⟩
    unfold lcpF
    rw [if_pos (beq_self_eq_true a), hl hne]
    simp
theorem lcp_all : ∀ (A B : List Str), (∀ j, j < A.length → A[j]? = B[j]?) → lcpF A B = A
  | [], B, _ => by cases B <;> rfl
  | a :: A, [], h => by have := h 0 (Nat.succ_pos _); simp at this
  | a :: A, b :: B, h => by
    have e0 : a = b := by simpa using h 0 (Nat.succ_pos _)
    subst e0
    unfold lcpF
    rw [if_pos (beq_self_eq_true a), lcp_all A B fun j hj => by simpa using h (j + 1) (Nat.succ_lt_succ hj)]
theorem ltS_asym {x y : Str} (h : ltS x y = true) : ltS y x = false := by
  unfold ltS at *
  rw [decide_eq_true_eq] at h
  exact decide_eq_false (List.lt_asymm h)
theorem ltL_asym : ∀ (a b : List Str), ltL a b = true → ltL b a = false
  | [], [], h => by simp [ltL] at h
  | [], _ :: _, _ => rfl
  | _ :: _, [], h => by simp [ltL] at h
  | x :: xs, y :: ys, h => by
    unfold ltL at h ⊢
    by_cases e : (x == y) = true
    · rw [if_pos e] at h
      have e' : x = y := by simpa using e
      rw [if_pos (by rw [e']; exact beq_self_eq_true y)]
      exact ltL_asym xs ys h
    · rw [if_neg e] at h
      have e' : ¬ (y == x) = true := fun h9 => e (by rw [beq_iff_eq] at h9 ⊢; exact h9.symm)
      rw [if_neg e']
      exact ltS_asym h
def mnF (A B : List Str) : List Str := if ltL B A = true then B else A
def mxF (A B : List Str) : List Str := if ltL A B = true then B else A
theorem mn_le_mx (A B : List Str) : ltL (mxF A B) (mnF A B) = false := by
  unfold mxF mnF
  by_cases h : ltL B A = true
  · rw [if_pos h, ltL_asym B A h, if_neg Bool.false_ne_true]
    exact ltL_asym B A h
  · rw [if_neg h]
    split
    · simpa using h
    · exact ltL_irr A
end
/- part E1 -/
theorem freshE1 : True := by
  w_top off
  trivial
section
set_option Elab.async false
set_option maxRecDepth 100000
set_option maxHeartbeats 8000000
set_option linter.unusedVariables false
local macro_rules | `(tactic| walk_at "exec Try") => `(tactic| (k_here; (with_reducible show wpAny _ _ (exec (Stmt.Try _ (_ :: _) [] [] _) _) _ _ _); refine try_calm ?_))
local macro_rules | `(tactic| walk_at "call ref") => `(tactic| (k_here; (with_reducible show wpAny _ _ (call (Value.ref 94) [Value.str _ _]) _ _ _); k_dflt (refine' fspath_spec  ?k1 ?k2 ?k3 ?k4 ?k5 ?k6 ?k7 ?k8 ?_; (case k1 => k_asm); (case k2 => k_asm); (case k3 => k_asm); (case k4 => k_asm); (case k5 => k_asm); (case k6 => first | exact rfl | assumption); (case k7 => ktr_room); (case k8 => ktr_units)); intro t' h' tk' F' N'; (try dsimp only); (try k_fold)))
local macro_rules | `(tactic| walk_at "call type:map") => `(tactic| (k_here; (with_reducible show wpAny _ _ (call (Value.type "map") [Value.ref _, Value.ref _]) _ _ _); k_dflt (refine' call_map ?k1 ?k2 ?k3 ?_; (case k1 => k_asm); (case k2 => k_asm); (case k3 => repeat (first | assumption | refine List.Mem.tail _ ?_))); intro M' T' I' h' lTM' lIT' lI' F' N'; (try dsimp only)))
local macro_rules | `(tactic| walk_at "call type:tuple") => `(tactic| (k_here; (with_reducible show wpAny _ _ (call (Value.type "tuple") [Value.ref _]) _ _ _); refine hold_ ?_))
local macro_rules | `(tactic| walk_at "exec Assign cons ListComp") => `(tactic| (k_here; refine hold_ ?_))
local macro_rules | `(tactic| walk_at "eval ListComp") => `(tactic| ((with_reducible show wpAny _ _ (eval (Expr.ListComp (Expr.Name _ _) _ _ _) _) _ _ _); refine hold_ ?_))
local macro_rules | `(tactic| walk_at "call builtin:min") => `(tactic| (k_here; refine hold_ ?_))
local macro_rules | `(tactic| walk_at "call builtin:max") => `(tactic| (k_here; refine hold_ ?_))
local macro_rules | `(tactic| walk_at "call type:enumerate") => `(tactic| (k_here; refine hold_ ?_))
local macro_rules | `(tactic| walk_at "subscriptTail") => `(tactic| (k_here; (with_reducible show wpAny _ _ (subscriptTail _ _ (Value.ref _) (Value.int _ _)) _ _ _); k_dflt (refine' item_led ?k1 ?k2 ?k3 ?k4 ?k5 ?_ ?k7; (case k1 => k_asm); (case k2 => assumption); (case k3 => omega); (case k4 => assumption); (case k5 => omega); (case k7 => with_unfolding_all rfl))))
local macro_rules | `(tactic| walk_at "subscriptTail Name Slice ref ref") => `(tactic| (k_here; (with_reducible show wpAny _ _ (subscriptTail _ (PySem.Expr.Slice _ _ none _) (Value.ref _) (Value.ref _)) _ _ _); refine hold_ ?_))
local macro_rules | `(tactic| walk_at "call builtin:str.join") => `(tactic| (k_here; refine hold_ ?_))
theorem cm_pick (ps : List (Str × Tok)) (i : Nat) : kms_pick (tv ps).toArray.toList none (some (i : Int)) = tv (ps.take i) := by
  unfold kms_pick kms_lo kms_hi tv
  dsimp only
  rw [if_neg (by omega), Int.toNat_natCast]
  simp only [List.drop_zero, Nat.sub_zero]
  rw [kmk_take_min, List.map_take]
theorem fr_eq {h₀ h : Heap} {L : Addr} {m m' : Str → Option Value} (F : Fr h₀ L h m) (e : ∀ y, m y = m' y) : Fr h₀ L h m' := by
  have : m = m' := funext e
  rw [← this]; exact F
def CmEnd (h₀ : Heap) (L : Addr) (m : Str → Option Value) (led : List (Addr × Obj)) (T : List Str) (s : Shared) (f : Flow) (s' : Shared) : Prop :=
  f = .next ∧ ∃ h' tk' Dc psc nc vc vi, s' = { s with heap := h', toks := tk' } ∧ psc.map (·.1) = T ∧ Fr h₀ L h' (fun y => if y = Str.ofString "common" then some (.ref Dc) else if y = Str.ofString "c" then vc else if y = Str.ofString "i" then vi else m y) ∧ News h₀ L h' ((Dc, listOf (tv psc).toArray nc) :: led)
theorem cm_cut {prog : Program} {w : World} {A : Around} {E : Value → Shared → Prop} {s : Shared} {h₀ : Heap} {L : Addr} {m : Str → Option Value} {led : List (Addr × Obj)} {T : List Str} {t : Sem Flow} {Q : Flow → Shared → Prop} (F : Fr h₀ L s.heap m) (N : News h₀ L s.heap led)
    (hloop : wpAny (model prog w) A t (CmEnd h₀ L m led T s) E s) (hrest : ∀ f s', CmEnd h₀ L m led T s f s' → Q f s') : wpAny (model prog w) A t Q E s := wpAny_mono hloop hrest fun _ _ e => e
theorem cm_item {psm psx : List (Str × Tok)} (hle : ltL (psx.map (·.1)) (psm.map (·.1)) = false) {i : Nat} {v : Value} (hv : (tv psm)[i]? = some v) (hj : ∀ j, j < i → (psm.map (·.1))[j]? = (psx.map (·.1))[j]?) :
    ∃ c tc d td, (psm.map (·.1))[i]? = some c ∧ v = .str c tc ∧ (tv psx)[i]? = some (.str d td) ∧ (psx.map (·.1))[i]? = some d ∧ ((c == d) = false → lcpF (psm.map (·.1)) (psx.map (·.1)) = (psm.map (·.1)).take i) := by
  obtain ⟨⟨c, tc⟩, hq, rfl⟩ := tv_get hv
  have hc1 : (psm.map (·.1))[i]? = some c := by rw [List.getElem?_map, hq]; rfl
  obtain ⟨d, hd, hl⟩ := lcp_step i _ _ c hle hj hc1
  rw [List.getElem?_map] at hd
  cases hp : psx[i]? with
  | none => rw [hp] at hd; cases hd
  | some q =>
    rw [hp] at hd
    obtain ⟨d', td⟩ := q
    cases hd
    exact ⟨c, tc, d', td, hc1, rfl, by unfold tv; rw [List.getElem?_map, hp]; rfl, by rw [List.getElem?_map, hp]; rfl, hl⟩
theorem lcpF_mem : ∀ (A B : List Str), ∀ a ∈ lcpF A B, a ∈ A
  | [], B, a, h => by cases B <;> exact h
  | x :: A, [], a, h => by cases h
  | x :: A, y :: B, a, h => by
    unfold lcpF at h
    split at h
    · rcases List.mem_cons.mp h with rfl | h
      · exact .head _
      · exact .tail _ (lcpF_mem A B a h)
    · cases h
theorem lcpF_len : ∀ (A B : List Str), (lcpF A B).length ≤ A.length
  | [], B => by cases B <;> exact Nat.le_refl _
  | x :: A, [] => Nat.zero_le _
  | x :: A, y :: B => by
    unfold lcpF
    split
    · exact Nat.succ_le_succ (lcpF_len A B)
    · exact Nat.zero_le _
theorem sum_len_le : ∀ (l : List Str), (∀ a ∈ l, a.length ≤ 1000) → (l.map (·.length)).sum ≤ 1000 * l.length
  | [], _ => Nat.le_refl _
  | x :: l, h => by
    have h1 := h x (.head _)
    have h2 := sum_len_le l fun a ha => h a (.tail _ ha)
    simp only [List.map_cons, List.sum_cons, List.length_cons]
    omega
def keepN (c : Str) : Bool := decide (c.length ≠ 0) && (c != Str.ofString ".")
theorem keepN_t {c : Str} (h1 : (c.length : Int) ≠ 0) (h2 : (c != Str.ofString ".") = true) : keepN c = true := by
  unfold keepN; rw [h2, Bool.and_true]; exact decide_eq_true (by omega)
theorem keepN_f1 {c : Str} (h2 : (c != Str.ofString ".") = false) : ¬ keepN c = true := by
  unfold keepN; rw [h2, Bool.and_false]; exact Bool.false_ne_true
theorem keepN_f2 {c : Str} (h1 : (c.length : Int) = 0) : ¬ keepN c = true := by
  unfold keepN; rw [decide_eq_false (by omega), Bool.false_and]; exact Bool.false_ne_true
def filtN (l : List Str) : List Str := l.filter keepN
def commL (p1 p2 : Str) : List Str := lcpF (mnF (filtN (Txt.split p1 (Str.ofString "/"))) (filtN (Txt.split p2 (Str.ofString "/")))) (mxF (filtN (Txt.split p1 (Str.ofString "/"))) (filtN (Txt.split p2 (Str.ofString "/"))))
def commF (p1 p2 : Str) : Str := Str.ofString "/" ++ Txt.join (Str.ofString "/") (commL p1 p2)
theorem filtN_snoc (l : List Str) (c : Str) : filtN (l ++ [c]) = if keepN c = true then filtN l ++ [c] else filtN l := by
  unfold filtN; rw [List.filter_append, List.filter_cons, List.filter_nil]
  split
  · rfl
  · rw [List.append_nil]
theorem items2 {p1 p2 : Str} {acc : Array Value} (h : ItemsOf (fun i v => ∃ t, v = .str (if i = 0 then p1 else p2) t) acc 2) : ∃ u1 u2, acc = #[.str p1 u1, .str p2 u2] := by
  obtain ⟨h1, h2⟩ := h
  obtain ⟨u1, e1⟩ := h2 0 acc[0] (by simp [h1])
  obtain ⟨u2, e2⟩ := h2 1 acc[1] (by simp [h1])
  refine ⟨u1, u2, ?_⟩
  apply Array.ext
  · exact h1
  · intro i h3 h4
    rcases (by omega : i = 0 ∨ i = 1) with rfl | rfl
    · exact e1
    · exact e2
theorem turn2 {p1 p2 : Str} {t1 t2 : Tok} {i : Nat} {x : Value} (h : (#[.str p1 t1, .str p2 t2] : Array Value)[i]? = some x) : ∃ t, x = .str (if i = 0 then p1 else p2) t := by
  match i, h with
  | 0, h => exact ⟨t1, by simpa using h.symm⟩
  | 1, h => exact ⟨t2, by simpa using h.symm⟩
  | i + 2, h => simp at h
section
variable {w : World} {mean : ExcName → Option Value} {mg mb : Str → Option Value}
  {dp un : Nat} {gd : Option (List Code)} {cn : Str} {cs : Scope} {a : Addr} {ccd : Value} {cl : List (Str × Addr)} {outer : List Env} {A₀ : Around} {base h₀ : Heap} {L : Addr} {m : Str → Option Value} {news : List (Addr × Obj)} {s : Shared} {Q E : Value → Shared → Prop}
theorem common_spec {nl : Addr} {p1 p2 : Str} {t1 t2 : Tok} {n0 : Nat} (hl : (nl, listOf #[.str p1 t1, .str p2 t2] n0) ∈ news) (hst1 : Txt.startswith p1 (Str.ofString "/") = true) (hst2 : Txt.startswith p2 (Str.ofString "/") = true) (hb1 : (Txt.split p1 (Str.ofString "/")).length ≤ 10) (hb2 : (Txt.split p2 (Str.ofString "/")).length ≤ 10) (hp1 : p1.length ≤ 1000) (hp2 : p2.length ≤ 1000) (B : Below A₀ base outer h₀) (F : Fr h₀ L s.heap m) (X : (hd.heap_1 w.params).In h₀) (N : News h₀ L s.heap news) (T : Top vw (looseW vw []) mean mg mb h₀) (hk : cs.kind = .function) (hdp : dp + 20 < recursionLimit) (hun : un + 200 < cLine)
   (hret : ∀ t h' tk', Fr h₀ L h' m → News h₀ L h' news → Q (.str (commF p1 p2) t) {s with heap := h', toks := tk'}) :
   wpAny (model Challenge.rw_pd0144_01.row.prog w) (ktrTop dp un gd cn cs L a ccd cl outer) (call (.ref 134) [.ref nl]) Q E s := by
  revert X; k_fill; intro X
  refine wpAny_call ?_
  k_dflt (refine' code_defC ?k1 ?k2 ?k3 ?k4 ?k5 ?kA ?kF ?kK ?k6 ?k7 ?k8 ?k9 ?kB ?kD ?_ ?c2 ?c3 ?c4; (case kA => exact rfl); (case kF => exact rfl); (case kK => assumption); (case k1 => k_asm); (case k2 => k_asm); (case k3 => k_asm); (case k4 => k_asm); (case k5 => k_asm); (case k6 => k_is); (case k7 => k_is); (case k8 => ktr_room); (case k9 => exact BindsTo.of_eq rfl); (case kB => exact rfl); (case kD => decide +kernel); (case c2 => exact rfl); (case c3 => exact rfl); (case c4 => exact rfl); k_whole; intro g' L' h' tk' cells' FG' F' N' Y' B' X' T' l1; (try k_lt l1); k_cells Y'; (try simp only [List.cons_append, List.nil_append] at N'); (try dsimp only); (try k_lift B'); (try k_fold))
  have hcl1 : ∀ p ∈ news, p.1 ≠ L' + 1 := fun p hp => Nat.ne_of_lt (Nat.lt_succ_of_lt (l1 p hp))
  have hcl2 : ∀ p ∈ news, p.1 ≠ L' + 1 + 1 := fun p hp => Nat.ne_of_lt (Nat.lt_succ_of_lt (Nat.lt_succ_of_lt (l1 p hp)))
  k_steps
  unfold Hold
  rename Fr _ _ _ _ => F1
  rename News _ _ _ _ => N1
  rename ∀ p ∈ (L' + 1 + 1, _) :: _, _ => lI1
  k_dflt (refine' tuple_map (xs := #[.str p1 t1, .str p2 t2]) (n0 := n0) (G := fun i v => ∃ t, v = .str (if i = 0 then p1 else p2) t) rfl F1 N1 (by assumption) (by assumption) (fun p hp => Nat.ne_of_lt (lI1 p hp)) (.tail _ (.tail _ hl)) (by show 2 ≤ _; decide) ?turn ?_)
  case turn =>
    intro i x h tk S acc c hx F2 N2
    obtain ⟨t, rfl⟩ := turn2 hx
    clear F1 N1
    refine' fspath_spec ?k1 F2 ?k3 N2 ?k5 ?k6 ?k7 ?k8 ?_
    case k1 => k_asm
    case k3 => k_asm
    case k5 => k_asm
    case k6 => first | exact rfl | assumption
    case k7 => ktr_room
    case k8 => ktr_units
    intro t' h' tk' F3 N3
    exact ⟨h', tk', rfl, ⟨t', rfl⟩, F3, N3⟩
  intro D3 h3 tk3 acc F3 N3 lD3 hacc
  obtain ⟨u1, u2, rfl⟩ := items2 hacc
  clear F1 N1 hacc lI1
  (try k_lt lD3)
  k_steps
  unfold Hold
  k_dflt (refine Assign_ListComp_Tup (F₀ := by k_asm) (by rfl) (by with_unfolding_all rfl) (by with_unfolding_all rfl) (by decide) (by rfl) (by decide) (by rfl) (by rfl) (by rfl) ?_)
  k_steps
  rename Fr _ _ _ _ => F5
  rename News _ _ _ _ => N5
  refine ⟨D3, _, _, _, rfl, rfl, F5, N5, .head _, by show 2 ≤ _; decide, fun g => ?_⟩
  refine LCg.CompRest.succ (k := 1) ?_
  intro v I oI C oC D m₂ h tk E' hv hN hm F6 N6 off ne
  obtain rfl : Value.str p1 u1 = v := by simpa using hv
  clear F5 N5
  have hI1 := Heap.lt_size (N6 _ (.head _)).1
  have hC1 := Heap.lt_size (N6 _ (.tail _ (.head _))).1
  have hD1 := Heap.lt_size (N6 _ (.tail _ (.tail _ (.head _)))).1
  have hO1 : ∀ p ∈ (D3, tupO #[.str p1 u1, .str p2 u2]) :: _ :: _ :: news, p.1 < h.objs.size := fun p hp => Heap.lt_size (N6 p (.tail _ (.tail _ (.tail _ hp)))).1
  k_steps
  rename Fr _ _ _ _ => F7
  rename News _ _ _ _ => N7'
  obtain ⟨qs1, hs1, hz1, N7⟩ : ∃ qs : List (Str × Tok), qs.map (·.1) = Txt.split p1 (Str.ofString "/") ∧ (∀ a ∈ qs.map (·.1), a.length ≤ p1.length) ∧ News _ _ _ ((h.objs.size, listOf (tv qs).toArray 0) :: _) := ⟨_, by assumption, by assumption, N7'⟩
  clear N7'
  refine LCg.CompEnd.intro F7 N7 ((h.objs.size, listOf (tv qs1).toArray 0) :: (D3, tupO #[.str p1 u1, .str p2 u2]) :: _ :: _ :: news) (fun p hp => ?_) ⟨⟨Nat.ne_of_gt hI1, Nat.ne_of_gt hC1, Nat.ne_of_gt hD1⟩, off⟩ (.tail _ (.head _)) ?_
  · simp only [List.mem_cons] at hp ⊢
    rcases hp with h | h | h | h | h | h | h | h <;> simp [h]
  generalize hX1 : h.objs.size = X1 at hO1 N7
  clear F7 N7 hI1 hC1 hD1 hN hm off ne
  refine LCg.CompRest.succ (k := 0) ?_
  intro v I oI C oC D m₂ h tk E' hv hN hm F6 N6 off ne
  obtain rfl : Value.str p2 u2 = v := by simpa using hv
  have hI1 := Heap.lt_size (N6 _ (.head _)).1
  have hC1 := Heap.lt_size (N6 _ (.tail _ (.head _))).1
  have hD1 := Heap.lt_size (N6 _ (.tail _ (.tail _ (.head _)))).1
  have hO2 : ∀ p ∈ (X1, listOf (tv qs1).toArray 0) :: (D3, tupO #[.str p1 u1, .str p2 u2]) :: _ :: _ :: news, p.1 < h.objs.size := fun p hp => Heap.lt_size (N6 p (.tail _ (.tail _ (.tail _ hp)))).1
  k_steps
  rename Fr _ _ _ _ => F7
  rename News _ _ _ _ => N7'
  obtain ⟨qs2, hs2, hz2, N7⟩ : ∃ qs : List (Str × Tok), qs.map (·.1) = Txt.split p2 (Str.ofString "/") ∧ (∀ a ∈ qs.map (·.1), a.length ≤ p2.length) ∧ News _ _ _ ((h.objs.size, listOf (tv qs).toArray 0) :: _) := ⟨_, by assumption, by assumption, N7'⟩
  clear N7'
  refine LCg.CompEnd.intro F7 N7 ((h.objs.size, listOf (tv qs2).toArray 0) :: (X1, listOf (tv qs1).toArray 0) :: (D3, tupO #[.str p1 u1, .str p2 u2]) :: _ :: _ :: news) (fun p hp => ?_) ⟨⟨Nat.ne_of_gt hI1, Nat.ne_of_gt hC1, Nat.ne_of_gt hD1⟩, off⟩ (.tail _ (.tail _ (.head _))) ?_
  · simp only [List.mem_cons] at hp ⊢
    rcases hp with h | h | h | h | h | h | h | h | h <;> simp [h]
  generalize hX2 : h.objs.size = X2 at hO2 N7
  clear F7 N7 hI1 hC1 hD1 hN hm off ne
  refine LCg.CompRest.zero ?_
  intro D4 h4 tk4 F4 N4 off4
  k_steps
  k_dflt (refine SetComp_Tup (F₀ := F4) (by with_unfolding_all rfl) (by decide) (by rfl) (by decide) (by rfl) ?_)
  k_steps
  rename Fr _ _ _ _ => F5
  rename News _ _ _ _ => N5
  refine ⟨D3, _, _, _, rfl, rfl, F5, N5, .tail _ (.tail _ (.tail _ (.head _))), by show 0 < 2; decide, ?_, ?_⟩
  · intro i v I oI C oC D oD m₂ h tk E' hv hN hm F6 N6
    clear F5 N5
    obtain ⟨tv, rfl⟩ := turn2 hv
    clear hv
    k_steps
    · by_cases h0 : i = 0
      · rw [if_pos h0, hst1]
      · rw [if_neg h0, hst2]
    · assumption
    · assumption
  intro D5 ep h5 tk5 F6 N6 off5
  clear F5 N5
  k_steps
  k_dflt (refine assign_set1 rfl (N6 _ (.head _)).1 fun h6 tk6 hk6 => ?_)
  replace F6 := F6.keeps hk6
  replace N6 := N6.grown hk6
  k_steps
  unfold Hold
  rename Fr _ _ _ _ => F7
  rename News _ _ _ _ => N7
  obtain ⟨oA, oB, tA, tB, hoA, hoB, N8⟩ : ∃ oA oB tA tB, oA.data = .cell (some (.str (Str.ofString ".") tA)) ∧ oB.data = .cell (some (.str (Str.ofString "/") tB)) ∧ News _ _ _ ((D4, LCg.lst [.ref X1, .ref X2]) :: (X2, listOf (tv qs2).toArray 0) :: (X1, listOf (tv qs1).toArray 0) :: (L' + 1 + 1, oA) :: (L' + 1, oB) :: news) := ⟨_, _, _, _, by assumption, by assumption, fun p hp => N7 p (by
    simp only [List.mem_cons] at hp ⊢
    rcases hp with h | h | h | h | h | h <;> simp [h])⟩
  have hq1 : qs1.length ≤ 10 := by rw [← List.length_map (f := (·.1)), hs1]; exact hb1
  have hq2 : qs2.length ≤ 10 := by rw [← List.length_map (f := (·.1)), hs2]; exact hb2
  clear N7
  k_dflt (refine LCg.Assign_ListComp_U (F₀ := by k_asm) (by rfl) (by with_unfolding_all rfl) (by with_unfolding_all rfl) (by decide) (by rfl) (by decide) (by rfl) (by rfl) (by rfl) ?_)
  walk1
  refine LCg.CompSrc.ledger rfl F7 N8 (.head _) (by show 2 ≤ _; decide) ?_
  intro g
  refine LCg.CompRest.succ (k := 1) ?_
  intro v I oI C oC D m₂ h tk E' hv hN hm F9 N9 off ne
  obtain rfl : Value.ref X1 = v := by simpa using hv
  clear F7 N8
  k_steps
  unfold Hold
  rename Fr _ _ _ _ => G2
  rename News _ _ _ _ => M2
  refine LCt.ListComp_T G2 (by with_unfolding_all rfl) (by decide) rfl (by decide) rfl ?_
  walk1
  refine LCt.CompSrcT.ledger rfl G2 M2 (.tail _ (.tail _ (.tail _ (.tail _ (.tail _ (.head _)))))) (by rw [List.size_toArray, tv_length]; exact Nat.le_trans hq1 (by decide)) ?_
  intro g2
  refine compT_ind (n := qs1.length) (fun i vs nw => ∃ ps, vs = tv ps ∧ ps.map (·.1) = filtN ((qs1.map (·.1)).take i) ∧ nw = _) ?step ?fin _ 0 [] _ (by rw [List.size_toArray, tv_length]; omega) ⟨[], rfl, rfl, rfl⟩
  case step =>
    rintro i vs nw hi ⟨ps, rfl, hps, rfl⟩ v I2 oI2 C2 oC2 D2 m₃ h2 tk2 E2 hv2 hN2 hm2 F3 N3 off2 ne2
    obtain ⟨⟨c, tc⟩, hq, rfl⟩ := tv_get (by simpa using hv2 : (tv qs1)[i]? = some v)
    have htk : (qs1.map (·.1)).take (i + 1) = (qs1.map (·.1)).take i ++ [c] := take_snoc (by rw [List.getElem?_map, hq]; rfl)
    clear G2 M2
    dsimp only at hm2
    have hc9 : c.length ≤ 1000 := Nat.le_trans (hz1 c (List.mem_map.mpr ⟨_, List.mem_of_getElem? hq, rfl⟩)) hp1
    k_steps
    · exact LCg.CompEnd.intro (by assumption) (by assumption) _ (fun p hp => hp) off2 (.inr ⟨_, .tail _ (.tail _ (.tail _ (.tail _ (.tail _ (.head _))))), rfl, _, rfl⟩) ⟨ps ++ [(_, _)], by rw [tv_snoc], by rw [htk, filtN_snoc, if_pos (keepN_t (by assumption) (by assumption)), List.map_append, hps]; rfl, rfl⟩
    · exact LCg.CompEnd.intro (by assumption) (by assumption) _ (fun p hp => hp) off2 (.inr ⟨_, .tail _ (.tail _ (.tail _ (.tail _ (.tail _ (.head _))))), rfl, _, rfl⟩) ⟨ps, rfl, by rw [htk, filtN_snoc, if_neg (keepN_f1 (by assumption))]; exact hps, rfl⟩
    · exact LCg.CompEnd.intro (by assumption) (by assumption) _ (fun p hp => hp) off2 (.inr ⟨_, .tail _ (.tail _ (.tail _ (.tail _ (.tail _ (.head _))))), rfl, _, rfl⟩) ⟨ps, rfl, by rw [htk, filtN_snoc, if_neg (keepN_f2 (by assumption))]; exact hps, rfl⟩
  case fin =>
    rintro vs nw ⟨ps1, rfl, hps1, rfl⟩ D1' h2 tk2 F3 N3 off1'
    rw [show (qs1.map (·.1)).take qs1.length = qs1.map (·.1) from by rw [← List.length_map (f := (·.1)), List.take_length]] at hps1
    clear G2 M2
    have o9 := off1_mem off1'
    refine LCg.CompEnd.intro F3 N3 ((D1', LCg.lst (tv ps1)) :: (D4, LCg.lst [.ref X1, .ref X2]) :: (X2, listOf (tv qs2).toArray 0) :: (X1, listOf (tv qs1).toArray 0) :: (L' + 1 + 1, oA) :: (L' + 1, oB) :: news) (fun p hp => ?_) ⟨⟨Ne.symm (o9 (I, oI) (.head _)), Ne.symm (o9 (C, oC) (.tail _ (.head _))), Ne.symm (o9 (D, _) (.tail _ (.tail _ (.head _))))⟩, off⟩ (.inr ⟨_, .tail _ (.head _), rfl, _, rfl⟩) ?_
    · simp only [List.mem_cons] at hp ⊢
      rcases hp with h | h | h | h | h | h | h | h | h | h <;> simp [h]
    clear F3 N3 o9 off1' hN hm off ne
    refine LCg.CompRest.succ (k := 0) ?_
    intro v I oI C oC D m₂ h tk E' hv hN hm F9 N9 off ne
    obtain rfl : Value.ref X2 = v := by simpa using hv
    k_steps
    unfold Hold
    rename Fr _ _ _ _ => G2
    rename News _ _ _ _ => M2
    refine LCt.ListComp_T G2 (by with_unfolding_all rfl) (by decide) rfl (by decide) rfl ?_
    walk1
    refine LCt.CompSrcT.ledger rfl G2 M2 (.tail _ (.tail _ (.tail _ (.tail _ (.tail _ (.head _)))))) (by rw [List.size_toArray, tv_length]; exact Nat.le_trans hq2 (by decide)) ?_
    intro g3
    refine compT_ind (n := qs2.length) (fun i vs nw => ∃ ps, vs = tv ps ∧ ps.map (·.1) = filtN ((qs2.map (·.1)).take i) ∧ nw = _) ?step ?fin _ 0 [] _ (by rw [List.size_toArray, tv_length]; omega) ⟨[], rfl, rfl, rfl⟩
    case step =>
      rintro i vs nw hi ⟨ps, rfl, hps, rfl⟩ v I2 oI2 C2 oC2 D2 m₃ h2 tk2 E2 hv2 hN2 hm2 F3 N3 off2 ne2
      obtain ⟨⟨c, tc⟩, hq, rfl⟩ := tv_get (by simpa using hv2 : (tv qs2)[i]? = some v)
      have htk : (qs2.map (·.1)).take (i + 1) = (qs2.map (·.1)).take i ++ [c] := take_snoc (by rw [List.getElem?_map, hq]; rfl)
      clear G2 M2
      dsimp only at hm2
      have hc9 : c.length ≤ 1000 := Nat.le_trans (hz2 c (List.mem_map.mpr ⟨_, List.mem_of_getElem? hq, rfl⟩)) hp2
      k_steps
      · exact LCg.CompEnd.intro (by assumption) (by assumption) _ (fun p hp => hp) off2 (.inr ⟨_, .tail _ (.tail _ (.tail _ (.tail _ (.tail _ (.head _))))), rfl, _, rfl⟩) ⟨ps ++ [(_, _)], by rw [tv_snoc], by rw [htk, filtN_snoc, if_pos (keepN_t (by assumption) (by assumption)), List.map_append, hps]; rfl, rfl⟩
      · exact LCg.CompEnd.intro (by assumption) (by assumption) _ (fun p hp => hp) off2 (.inr ⟨_, .tail _ (.tail _ (.tail _ (.tail _ (.tail _ (.head _))))), rfl, _, rfl⟩) ⟨ps, rfl, by rw [htk, filtN_snoc, if_neg (keepN_f1 (by assumption))]; exact hps, rfl⟩
      · exact LCg.CompEnd.intro (by assumption) (by assumption) _ (fun p hp => hp) off2 (.inr ⟨_, .tail _ (.tail _ (.tail _ (.tail _ (.tail _ (.head _))))), rfl, _, rfl⟩) ⟨ps, rfl, by rw [htk, filtN_snoc, if_neg (keepN_f2 (by assumption))]; exact hps, rfl⟩
    case fin =>
      rintro vs nw ⟨ps2, rfl, hps2, rfl⟩ D2' h2 tk2 F3 N3 off2'
      rw [show (qs2.map (·.1)).take qs2.length = qs2.map (·.1) from by rw [← List.length_map (f := (·.1)), List.take_length]] at hps2
      clear G2 M2
      have o9 := off1_mem off2'
      refine LCg.CompEnd.intro F3 N3 ((D2', LCg.lst (tv ps2)) :: (D1', LCg.lst (tv ps1)) :: (D4, LCg.lst [.ref X1, .ref X2]) :: (X2, listOf (tv qs2).toArray 0) :: (X1, listOf (tv qs1).toArray 0) :: (L' + 1 + 1, oA) :: (L' + 1, oB) :: news) (fun p hp => ?_) ⟨⟨Ne.symm (o9 (I, oI) (.head _)), Ne.symm (o9 (C, oC) (.tail _ (.head _))), Ne.symm (o9 (D, _) (.tail _ (.tail _ (.head _))))⟩, off⟩ (.inr ⟨_, .tail _ (.tail _ (.head _)), rfl, _, rfl⟩) ?_
      · simp only [List.mem_cons] at hp ⊢
        rcases hp with h | h | h | h | h | h | h | h | h | h | h <;> simp [h]
      clear F3 N3 o9 off2' hN hm off ne
      refine LCg.CompRest.zero ?_
      intro D6 h6 tk6 F6 N6 off6
      have o6 := off1_mem off6
      k_steps
      unfold Hold
      rename Fr _ _ _ _ => F10
      rename News _ _ _ _ => N10
      have N11 : News _ _ _ ((D6, listOf #[.ref D1', .ref D2'] 2) :: (D2', LCg.lst (tv ps2)) :: (D1', LCg.lst (tv ps1)) :: (L' + 1 + 1, oA) :: (L' + 1, oB) :: news) := fun p hp => N10 p (by
        simp only [List.mem_cons] at hp ⊢
        rcases hp with h | h | h | h | h | h <;> simp [h])
      clear N10
      k_dflt (refine call_min2 (v1 := .ref D1') (v2 := .ref D2') (n0 := 2) (b := ltL (ps2.map (·.1)) (ps1.map (·.1))) rfl F10 N11 (.head _) (fun h tk N => ltAt_texts ⟨_, (N _ (.tail _ (.head _))).1, rfl, _, rfl⟩ ⟨_, (N _ (.tail _ (.tail _ (.head _)))).1, rfl, _, rfl⟩ ?units) ?_)
      case units => ktr_units
      intro h7 tk7 F7 N7
      obtain ⟨Dm, psm, hDm, hpm, hmm⟩ : ∃ Dm psm, (if ltL (ps2.map (·.1)) (ps1.map (·.1)) = true then Value.ref D2' else Value.ref D1') = .ref Dm ∧ psm.map (·.1) = (if ltL (ps2.map (·.1)) (ps1.map (·.1)) = true then ps2.map (·.1) else ps1.map (·.1)) ∧ (Dm, LCg.lst (tv psm)) ∈ ((D6, listOf #[.ref D1', .ref D2'] 2) :: (D2', LCg.lst (tv ps2)) :: (D1', LCg.lst (tv ps1)) :: (L' + 1 + 1, oA) :: (L' + 1, oB) :: news) := by
        split
        · exact ⟨D2', ps2, rfl, rfl, .tail _ (.head _)⟩
        · exact ⟨D1', ps1, rfl, rfl, .tail _ (.tail _ (.head _))⟩
      rw [hDm]
      clear F10 N11
      k_steps
      unfold Hold
      rename Fr _ _ _ _ => F10
      rename News _ _ _ _ => N11
      k_dflt (refine call_max2 (v1 := .ref D1') (v2 := .ref D2') (n0 := 2) (b := ltL (ps1.map (·.1)) (ps2.map (·.1))) rfl F10 N11 (.head _) (fun h tk N => gtAt_texts ⟨_, (N _ (.tail _ (.head _))).1, rfl, _, rfl⟩ ⟨_, (N _ (.tail _ (.tail _ (.head _)))).1, rfl, _, rfl⟩ ?units) ?_)
      case units => ktr_units
      intro h8 tk8 F8 N8
      obtain ⟨Dx, psx, hDx, hpx, hmx⟩ : ∃ Dm psm, (if ltL (ps1.map (·.1)) (ps2.map (·.1)) = true then Value.ref D2' else Value.ref D1') = .ref Dm ∧ psm.map (·.1) = (if ltL (ps1.map (·.1)) (ps2.map (·.1)) = true then ps2.map (·.1) else ps1.map (·.1)) ∧ (Dm, LCg.lst (tv psm)) ∈ ((D6, listOf #[.ref D1', .ref D2'] 2) :: (D2', LCg.lst (tv ps2)) :: (D1', LCg.lst (tv ps1)) :: (L' + 1 + 1, oA) :: (L' + 1, oB) :: news) := by
        split
        · exact ⟨D2', ps2, rfl, rfl, .tail _ (.head _)⟩
        · exact ⟨D1', ps1, rfl, rfl, .tail _ (.tail _ (.head _))⟩
      rw [hDx]
      clear F10 N11
      k_steps
      unfold Hold
      rename Fr _ _ _ _ => F10
      rename News _ _ _ _ => N11
      have hz1' : ∀ a ∈ ps1.map (·.1), a.length ≤ 1000 := fun a ha => by rw [hps1] at ha; exact Nat.le_trans (hz1 a (List.mem_filter.mp ha).1) hp1
      have hz2' : ∀ a ∈ ps2.map (·.1), a.length ≤ 1000 := fun a ha => by rw [hps2] at ha; exact Nat.le_trans (hz2 a (List.mem_filter.mp ha).1) hp2
      have hn1 : (ps1.map (·.1)).length ≤ 10 := by rw [hps1]; exact Nat.le_trans (List.length_filter_le _ _) (by rw [List.length_map]; exact hq1)
      have hn2 : (ps2.map (·.1)).length ≤ 10 := by rw [hps2]; exact Nat.le_trans (List.length_filter_le _ _) (by rw [List.length_map]; exact hq2)
      have hnm : psm.length ≤ 10 := by rw [← List.length_map (f := (·.1)), hpm]; split <;> assumption
      have hzm : ∀ a ∈ psm.map (·.1), a.length ≤ 1000 := by rw [hpm]; split <;> assumption
      have hzx : ∀ a ∈ psx.map (·.1), a.length ≤ 1000 := by rw [hpx]; split <;> assumption
      have hle : ltL (psx.map (·.1)) (psm.map (·.1)) = false := by rw [hpx, hpm]; exact mn_le_mx _ _
      refine cm_cut (T := lcpF (psm.map (·.1)) (psx.map (·.1))) F10 N11 ?loop ?rest
      case loop =>
        refine For_pair3 g' rfl rfl rfl rfl ?_ (by intro _; rfl)
        k_steps
        unfold Hold
        refine enum_still rfl (fun i => ∀ j, j < i → (psm.map (·.1))[j]? = (psx.map (·.1))[j]?) F10 N11 hmm (fun j hj => absurd hj (Nat.not_lt_zero _)) ?turn ?done
        case turn =>
          intro i v t h tk own hv hJ F12 N12
          obtain ⟨c, tc, d, td, hc, rfl, hd1, hd2, hd3⟩ := cm_item hle hv hJ
          have hi9 : i < 10 := Nat.lt_of_lt_of_le (by have := (List.getElem?_eq_some_iff.mp hv).1; rwa [tv_length] at this) hnm
          have hd1' : (tv psx)[((i : Nat) : Int).toNat]? = some (.str d td) := by rw [Int.toNat_natCast]; exact hd1
          have hcl : c.length ≤ 1000 := hzm c (List.mem_of_getElem? hc)
          have hdl : d.length ≤ 1000 := hzx d (List.mem_of_getElem? hd2)
          clear F10 N11
          have hmx' := List.mem_append.mpr (Or.inr (a := (Dx, LCg.lst (tv psx)) ∈ own) hmx)
          have hmm' := List.mem_append.mpr (Or.inr (a := (Dm, LCg.lst (tv psm)) ∈ own) hmm)
          k_steps
          · unfold Hold
            rename Fr _ _ _ _ => F14
            rename News _ _ _ _ => N14
            k_dflt (refine kms_slice_lit (its := (tv psm).toArray) (lo := none) (hi := some ((i : Nat) : Int)) (zs := tv (psm.take i)) F14 N14 ⟨_, (N14 _ hmm').1, rfl, _, rfl⟩ (by kmk_part) (by kmk_part) (cm_pick psm i) ?_ (by with_unfolding_all rfl) (by kmk_pure) ?z)
            case z => rw [List.size_toArray, tv_length]; exact Nat.le_trans hnm (by decide)
            intro D' h' F' N' l1'
            clear F14 N14
            k_steps
            rename Fr _ _ _ _ => F15
            rename News _ _ _ _ => N15
            rename ((c != d) = true) => hne
            have hne' : (c == d) = false := by rw [bne] at hne; simpa using hne
            refine ⟨rfl, _, _, D', psm.take i, 0, some (.str c tc), some (.int i t), rfl, by rw [List.map_take]; exact (hd3 hne').symm, fr_eq F15 fun y => ?_, fun p hp => N15 p ?_⟩
            · by_cases h1 : y = Str.ofString "common"
              · simp [h1]
              · simp [h1]
            · rcases List.mem_cons.mp hp with rfl | hp
              · exact .head _
              · exact .tail _ (List.mem_append.mpr (.inr hp))
          · rename Fr _ _ _ _ => F15
            rename News _ _ _ _ => N15
            rename ((c != d) = false) => hne
            have hne' : c = d := by simpa using hne
            refine ⟨fun j hj => ?_, _, _, _, _, rfl, F15, N15⟩
            rcases Nat.lt_succ_iff_lt_or_eq.mp hj with hj | rfl
            · exact hJ j hj
            · rw [hc, hd2, hne']
        case done =>
          intro h tk vc vi hJ F12 N12
          refine ⟨rfl, _, _, Dm, psm, (tv psm).length, vc, vi, rfl, (lcp_all _ _ fun j hj => hJ j (by rw [tv_length]; simpa using hj)).symm, fr_eq F12 fun y => ?_, fun p hp => N12 p ?_⟩
          · by_cases h1 : y = Str.ofString "common"
            · subst h1; rfl
            · simp [h1]
          · rcases List.mem_cons.mp hp with rfl | hp
            · exact hmm
            · exact hp
      case rest =>
        rintro f s' ⟨rfl, h9, tk9, Dc, psc, nc, vc, vi, rfl, hpc, F16, N16⟩
        clear F10 N11
        k_steps
        unfold Hold
        rename Fr _ _ _ _ => F17
        rename News _ _ _ _ => N17
        have hT : lcpF (psm.map (·.1)) (psx.map (·.1)) = commL p1 p2 := by rw [hpm, hpx, hps1, hps2, hs1, hs2]; rfl
        have hTn : (commL p1 p2).length ≤ 10 := by rw [← hT]; exact Nat.le_trans (lcpF_len _ _) (by rw [List.length_map]; exact hnm)
        have hTs : ((commL p1 p2).map (·.length)).sum ≤ 1000 * (commL p1 p2).length := sum_len_le _ fun a ha => by rw [← hT] at ha; exact hzm a (lcpF_mem _ _ a ha)
        rw [hT] at hpc
        k_dflt (refine SC.join (x := Str.ofString "/") (D := Dc) (l := psc) (texts := commL p1 p2) ⟨_, (N17 _ (.head _)).1, rfl, _, rfl⟩ hpc (joinOk_of_weight (by omega) (by decide)) ?_)
        intro tj kj
        have hjl : (Txt.join (Str.ofString "/") (commL p1 p2)).length ≤ 20000 := by
          have h9 := StrLaws.join_length_le (Str.ofString "/") (commL p1 p2)
          rw [← StrLaws.glued_eq_join, show (Str.ofString "/").length = 1 from rfl] at h9
          unfold Txt.join
          omega
        k_steps
        exact hret _ _ _ (by assumption) (cb_drop (by assumption) fun p hp => by simp [hp])
end
end
/- part R2 -/
theorem freshR2 : True := by
  w_top off
  trivial
section
set_option Elab.async false
set_option maxRecDepth 100000
set_option maxHeartbeats 8000000
set_option linter.unusedVariables false
section
variable {prog : Program} {w : World} {A : Around} {E : Value → Shared → Prop} {s : Shared} {h₀ : Heap} {L D S : Addr} {m : Str → Option Value} {rest : List (Addr × Obj)} {vs ws : List Value} {n k : Nat}
theorem iadd_led {Q : Value → Shared → Prop} (F : Fr h₀ L s.heap m) (N : News h₀ L s.heap ((D, listOf vs.toArray n) :: rest)) (hoff : ∀ p ∈ rest, p.1 ≠ D) (hm : (S, listOf ws.toArray k) ∈ rest) (hz : vs.length + ws.length ≤ 100000)
    (h : ∀ h' n', Fr h₀ L h' m → News h₀ L h' ((D, listOf (vs ++ ws).toArray n') :: rest) → Q (.ref D) { s with heap := h' }) : wpAny (model prog w) A (inplaceOp .Add (.ref D) (.ref S)) Q E s := by
  have zD := N _ (.head _)
  have zS := N _ (.tail _ hm)
  have hD : s.TypeIs (.ref D) "list" := ⟨_, zD.1, rfl⟩
  have hS : s.TypeIs (.ref S) "list" := ⟨_, zS.1, rfl⟩
  have hseq : isSeqSlot (some (.builtin "list.__iadd__")) = true := by decide +kernel
  have hfi : fillsInplaceSlot (.type "list") "add" (Operator.Add == .Add) = pure false := by
    unfold fillsInplaceSlot
    show (typeLookup (.type "list") (dunderI "add") >>= fun fi => pure (fi.isSome && !isSeqSlot fi)) = pure false
    rw [PySem.F.slot_list_iadd.lookup, pure_bind, hseq]; rfl
  unfold inplaceOp
  refine wpAny_holding ?_
  refine wpAny_bind (wpAny_typeOf hD (wpAny_bind (wpAny_of_eq hfi ?_)))
  show wpAny _ A (if false = true then _ else _) Q E s
  rw [if_neg Bool.false_ne_true]
  refine wpAny_bind (wpAny_binaryOp1_none (nm := "add") hD hS noFill_list_add ?_)
  refine wpAny_bind (wpAny_of_eq (PySem.seqSlot_of PySem.F.slot_list_iadd.lookup hseq) ?_)
  refine wpAny_bind (wpAny_rule ?_)
  refine wpAny_call_entry PySem.F.slot_list_iadd hD PySem.F.entry_list_iadd ?_ (PySem.F.args_list_iadd_2 _ _)
  show wpAny _ _ (Builtin.List.listExtendWith (.ref D) (.ref S) (.ref D)) _ _ _
  unfold Builtin.List.listExtendWith
  refine wpAny_bind (wpAny_typeOf hS ?_)
  rw [if_pos (by simp)]
  refine wpAny_bind (wpAny_bind (wpAny_seqItems zS.1 rfl (wpAny_pure ?_)))
  refine wpAny_bind (wpAny_bind (wpAny_seqItems zD.1 rfl (wpAny_pure ?_)))
  have hzz : vs.length + ws.length ≤ sizeLine := Nat.le_trans hz (by decide)
  have hlong : (!vs.toArray.isEmpty && Builtin.List.listTooLong (vs.toArray.size + ws.toArray.size)) = false := by
    have : Builtin.List.listTooLong (vs.toArray.size + ws.toArray.size) = false := by
      unfold Builtin.List.listTooLong
      rw [List.size_toArray, List.size_toArray]
      exact decide_eq_false (by omega)
    rw [this, Bool.and_false]
  rw [hlong, if_neg Bool.false_ne_true]
  show wpAny _ _ (updateSeq D (· ++ ws.toArray) >>= fun _ => ret (.ref D)) _ _ _
  refine wpAny_bind (wpAny_updateSeq zD.1 rfl (wpAny_pure ⟨_, rfl, h _ _ (F.change (Heap.SameBut.update ..) zD.2.1 zD.2.2) (ki_turn (pre := []) (n' := if (vs ++ ws).toArray.size == vs.toArray.size then n else n + 1) (· ++ ws.toArray) N (fun _ hp => nomatch hp) hoff (by simp) rfl)⟩) (by rw [List.size_toArray]; omega) (by rw [Array.size_append, List.size_toArray, List.size_toArray]; omega))
end
end
/- part L1 -/
theorem freshL1 : True := by
  w_top off
  trivial
section
set_option Elab.async false
set_option maxRecDepth 100000
set_option maxHeartbeats 8000000
set_option linter.unusedVariables false
local macro_rules | `(tactic| walk_at "call builtin:len") => `(tactic| (k_here; (with_reducible show wpAny _ _ (call (Value.builtin "len") [Value.ref _]) _ _ _); k_dflt (refine' len_led ?k1 ?k2 ?k3 ?k4 ?_; (case k1 => k_asm); (case k2 => repeat (first | assumption | refine List.Mem.tail _ ?_)); (case k3 => first | assumption | exact List.length_map .. | exact tv_length _ | rfl); (case k4 => omega)); intro tk9; (try dsimp only)))
local macro_rules | `(tactic| walk_at "call ref") => `(tactic| (k_here; (with_reducible show wpAny _ _ (call (Value.ref 195) [Value.str _ _]) _ _ _); k_dflt (refine' above_spec ?p0 ?p1 ?k1 ?k2 ?k3 ?k4 ?k5 ?k6 ?k7 ?k8 ?_; (case k1 => k_asm); (case k2 => k_asm); (case k3 => k_asm); (case k4 => k_asm); (case k5 => k_asm); (case k6 => first | exact rfl | assumption); (case k7 => ktr_room); (case k8 => ktr_units); (case p0 => assumption); (case p1 => assumption)); intro l' ps' nn' h' tk' hps' F' N' off'; (try dsimp only); (try k_fold)))
local macro_rules | `(tactic| walk_at "pyIter ref") => `(tactic| (k_here; refine hold_ ?_))
local macro_rules | `(tactic| walk_at "subscriptTail") => `(tactic| (k_here; (with_reducible show wpAny _ _ (subscriptTail _ _ (Value.ref _) (Value.int _ _)) _ _ _); k_dflt (refine' item_led ?k1 ?k2 ?k3 ?k4 ?k5 ?_ ?k7; (case k1 => k_asm); (case k2 => repeat (first | assumption | refine List.Mem.tail _ ?_)); (case k3 => omega); (case k4 => first | assumption | rfl); (case k5 => omega); (case k7 => with_unfolding_all rfl))))
local macro_rules | `(tactic| walk_at "call ref") => `(tactic| (k_here; (with_reducible show wpAny _ _ (call (Value.ref 134) [Value.ref _]) _ _ _); k_dflt (refine' common_spec ?p0 ?p1 ?p2 ?p3 ?p4 ?p5 ?p6 ?k1 ?k2 ?k3 ?k4 ?k5 ?k6 ?k7 ?k8 ?_; (case k1 => k_asm); (case k2 => k_asm); (case k3 => k_asm); (case k4 => k_asm); (case k5 => k_asm); (case k6 => first | exact rfl | assumption); (case k7 => ktr_room); (case k8 => ktr_units); (case p0 => first | exact .head _ | (repeat (first | assumption | refine List.Mem.tail _ ?_))); (case p1 => assumption); (case p2 => assumption); (case p3 => assumption); (case p4 => assumption); (case p5 => assumption); (case p6 => assumption)); intro t' h' tk' F' N'; (try dsimp only); (try k_fold)))
local macro_rules | `(tactic| walk_at "inplaceOp Add ref") => `(tactic| (k_here; refine hold_ ?_))
local macro_rules | `(tactic| walk_at "inplaceOp Add ref ref") => `(tactic| (k_here; refine hold_ ?_))
def abv (p : Str) : List Str := (aboveN 5 p [p]).getD []
def GoodP (p : Str) : Prop := p.length ≤ 1000 ∧ aboveN 5 p [p] = some (abv p) ∧ (abv p).length ≤ 5
def GoodQ (p : Str) : Prop := Txt.startswith p (Str.ofString "/") = true ∧ (Txt.split p (Str.ofString "/")).length ≤ 10
def placesF (fs : List File) (i : Nat) : List Str := (fs.take i).flatMap fun f => abv f.p
def meetF (fs : List File) (t : Nat) : List Str := match fs[t - 1]?, fs[t]? with
  | some f, some g => if 0 < t ∧ f.k = g.k then abv (commF f.p g.p) else []
  | _, _ => []
def meetsF (fs : List File) (i : Nat) : List Str := (List.range i).flatMap (meetF fs)
theorem placesF_succ {fs : List File} {i : Nat} {f : File} (h : fs[i]? = some f) : placesF fs (i + 1) = placesF fs i ++ abv f.p := by
  unfold placesF; rw [take_snoc h, List.flatMap_append]; simp
theorem meetsF_succ (fs : List File) (i : Nat) : meetsF fs (i + 1) = meetsF fs i ++ meetF fs i := by
  unfold meetsF; rw [List.range_succ, List.flatMap_append]; simp
theorem meetF_zero (fs : List File) : meetF fs 0 = [] := by
  unfold meetF
  split
  · rw [if_neg (fun h => absurd h.1 (Nat.lt_irrefl 0))]
  · rfl
theorem meetF_succ {fs : List File} {j : Nat} {g f : File} (hg : fs[j]? = some g) (hf : fs[j + 1]? = some f) : meetF fs (j + 1) = if g.k = f.k then abv (commF g.p f.p) else [] := by
  unfold meetF
  rw [Nat.add_sub_cancel, hg, hf]
  dsimp only
  by_cases h : g.k = f.k
  · rw [if_pos ⟨Nat.succ_pos _, h⟩, if_pos h]
  · rw [if_neg (fun h9 => h h9.2), if_neg h]
structure LfS where
  me : List (Str × Tok)
  pl : List (Str × Tok)
  n1 : Nat
  n2 : Nat
section
variable {w : World} {mean : ExcName → Option Value} {mg mb : Str → Option Value}
  {dp un : Nat} {gd : Option (List Code)} {cn : Str} {cs : Scope} {a : Addr} {ccd : Value} {cl : List (Str × Addr)} {outer : List Env} {A₀ : Around} {base h₀ : Heap} {L : Addr} {m : Str → Option Value} {news : List (Addr × Obj)} {s : Shared} {Q E : Value → Shared → Prop}
theorem left_spec {fl : Addr} {vfs : List VF} {n0 : Nat} (hl : (fl, listOf (vfs.map (·.1)).toArray n0) ∈ news) (hf : VFs news vfs) (hn : vfs.length = 6) (hg : ∀ f ∈ vfs, GoodP f.2.p ∧ GoodQ f.2.p) (hc : ∀ f ∈ vfs, ∀ g ∈ vfs, GoodP (commF f.2.p g.2.p)) (hsub : ∀ z, (meetsF (vfs.map (·.2)) 6).count z ≤ (placesF (vfs.map (·.2)) 6).count z) (B : Below A₀ base outer h₀) (F : Fr h₀ L s.heap m) (X : (hd.heap_1 w.params).In h₀) (N : News h₀ L s.heap news) (T : Top vw (looseW vw []) mean mg mb h₀) (hk : cs.kind = .function) (hdp : dp + 25 < recursionLimit) (hun : un + 400 < cLine)
   (hret : ∀ q mi pa r n' h' tk', (∀ z, cnt r z + (meetsF (vfs.map (·.2)) 6).count z = (placesF (vfs.map (·.2)) 6).count z) → Fr h₀ L h' m → News h₀ L h' ((q, ({ cls := .type "tuple", data := .seq #[.ref mi, .ref pa] } : Obj)) :: (mi, listOf #[] 0) :: (pa, listOf (tv r).toArray n') :: news) → Q (.ref q) {s with heap := h', toks := tk'}) :
   wpAny (model Challenge.rw_pd0144_01.row.prog w) (ktrTop dp un gd cn cs L a ccd cl outer) (call (.ref 207) [.ref fl]) Q E s := by
  revert X; k_fill; intro X
  refine wpAny_call ?_
  k_dflt cell_enter
  have hl9 : (vfs.map (·.1)).length = 6 := by rw [List.length_map]; exact hn
  k_steps
  unfold Hold
  rename Fr _ _ _ _ => F1
  rename News _ _ _ _ => N1
  refine For_invVF F1 rfl rfl ?_
  k_steps
  unfold Hold
  rename Fr _ _ _ _ => F2
  rename News _ _ _ _ => N2
  obtain ⟨ma, pa, hma, hpa, N3, hm1, hm2⟩ : ∃ ma pa, frMap F2 (Str.ofString "meets") = some (.ref ma) ∧ frMap F2 (Str.ofString "places") = some (.ref pa) ∧ News _ _ _ ((ma, listOf (tv []).toArray 0) :: (pa, listOf (tv []).toArray 0) :: news) ∧ (∀ p ∈ news, p.1 < ma) ∧ (ma < pa ∧ AllLt pa news) := ⟨_, _, rfl, rfl, cb_drop N2 (fun p hp => by
    simp only [List.mem_cons] at hp ⊢
    rcases hp with h | h | h <;> simp [h, tv]), by assumption, by assumption⟩
  clear N2
  refine iter_rangeL (n := 6) (a₀ := 0) (b₀ := ((6 : Nat) : Int)) (σ := LfS) (fun c => (ma, listOf (tv c.me).toArray c.n1) :: (pa, listOf (tv c.pl).toArray c.n2) :: news) (fun _ => [(Str.ofString "meets", .ref ma), (Str.ofString "places", .ref pa)]) []
    (fun i c => c.pl.map (·.1) = placesF (vfs.map (·.2)) i ∧ c.me.map (·.1) = meetsF (vfs.map (·.2)) i ∧ c.pl.length ≤ 5 * i ∧ c.me.length ≤ 5 * i) ⟨[], [], 0, 0⟩ rfl (by assumption) (by decide) (by decide) F2 N3 (by
      intro p hp
      simp only [List.mem_cons, List.not_mem_nil, or_false] at hp
      rcases hp with rfl | rfl
      · exact hma
      · exact hpa) ⟨rfl, rfl, Nat.zero_le _, Nat.zero_le _⟩ ?_ ?_
  · rintro i t ⟨me, pl, n1', n2'⟩ u' h2 tk2 I oI hi ⟨hpl, hme, hb1, hb2⟩ hoff F3 N4
    replace hpl : pl.map (·.1) = placesF (vfs.map (·.2)) i := hpl
    replace hme : me.map (·.1) = meetsF (vfs.map (·.2)) i := hme
    replace hb1 : pl.length ≤ 5 * i := hb1
    replace hb2 : me.length ≤ 5 * i := hb2
    rw [Int.zero_add] at F3
    dsimp only [kstB] at F3 N4
    (try dsimp only)
    obtain ⟨⟨v, f⟩, hq⟩ : ∃ q, vfs[i]? = some q := ⟨_, List.getElem?_eq_getElem (by omega)⟩
    obtain ⟨fa, fll, ftk, ftp, fps, fn1, fn2, rfl, hf1, hf2, hf3⟩ := hf _ (List.mem_of_getElem? hq)
    obtain ⟨⟨hg1, hg2, hg3⟩, hg4, hg5⟩ := hg _ (List.mem_of_getElem? hq)
    dsimp only at hf1 hf2 hf3 hg1 hg2 hg3 hg4 hg5
    have hx0 : (vfs.map (·.1))[((i : Nat) : Int).toNat]? = some (.ref fa) := by rw [Int.toNat_natCast, List.getElem?_map, hq]; rfl
    clear hma hpa F2 N3
    have hmp : ma ≠ pa := Nat.ne_of_lt hm2.1
    have hpn : ∀ p ∈ news, p.1 ≠ pa := fun p hp => Nat.ne_of_lt (ktn_ltOf hm2.2 p hp)
    have hmn : ∀ p ∈ news, p.1 ≠ ma := fun p hp => Nat.ne_of_lt (hm1 p hp)
    have hmI : ma ≠ I := hoff _ (.head _)
    have hpI : pa ≠ I := hoff _ (.tail _ (.head _))
    have hnI : ∀ p ∈ news, p.1 ≠ I := fun p hp => hoff p (.tail _ (.tail _ hp))
    k_steps
    unfold Hold
    rename Fr _ _ _ _ => F5
    rename News _ _ _ _ => N5
    rename_i la aps ann h9 tk9 haps off9
    have hla : pa ≠ la := off9 _ (.tail _ (.tail _ (.head _)))
    have N6 : News _ _ _ ((la, listOf (tv aps).toArray ann) :: (I, oI) :: (ma, listOf (tv me).toArray n1') :: (pa, listOf (tv pl).toArray n2') :: news) := N5
    clear N5
    have hal : aps.length ≤ 5 := by rw [← List.length_map (f := (·.1)), haps]; exact hg3
    k_dflt (refine iadd_led (vs := tv pl) (ws := tv aps) (n := n2') (rest := (la, listOf (tv aps).toArray ann) :: (I, oI) :: (ma, listOf (tv me).toArray n1') :: news) F5 (cb_drop N6 fun p hp => ?mem) (fun p hp => ?off) (.head _) (by rw [tv_length, tv_length]; omega) ?_)
    case mem =>
      simp only [List.mem_cons] at hp ⊢
      rcases hp with h | h | h | h | h <;> simp [h]
    case off =>
      rcases List.mem_cons.mp hp with rfl | hp
      · exact Ne.symm hla
      rcases List.mem_cons.mp hp with rfl | hp
      · exact Ne.symm hpI
      rcases List.mem_cons.mp hp with rfl | hp
      · exact hmp
      · exact hpn p hp
    intro h5 n3' F7 N7
    have N8 : News _ _ _ ((pa, listOf (tv (pl ++ aps)).toArray n3') :: (I, oI) :: (ma, listOf (tv me).toArray n1') :: news) := fun p hp => N7 p (by
      have e9 : tv (pl ++ aps) = tv pl ++ tv aps := List.map_append
      rw [e9] at hp
      simp only [List.mem_cons] at hp ⊢
      rcases hp with h | h | h | h <;> simp [h])
    clear F5 N6 N7
    (try dsimp only)
    have hqf : (vfs.map (·.2))[i]? = some f := by rw [List.getElem?_map, hq]; rfl
    have hP1 : (pl ++ aps).map (·.1) = placesF (vfs.map (·.2)) (i + 1) := by rw [List.map_append, hpl, haps, placesF_succ hqf]
    have hP2 : (pl ++ aps).length ≤ 5 * (i + 1) := by rw [List.length_append]; omega
    have hI9 : ∀ (me' : List (Str × Tok)) (n9 : Nat), ∀ p ∈ (ma, listOf (tv me').toArray n9) :: (pa, listOf (tv (pl ++ aps)).toArray n3') :: news, p.1 ≠ I := fun me' n9 p hp => by
      rcases List.mem_cons.mp hp with rfl | hp
      · exact hmI
      rcases List.mem_cons.mp hp with rfl | hp
      · exact hpI
      · exact hnI p hp
    cases i with
    | zero =>
      k_steps
      refine turn_end ⟨me, pl ++ aps, n1', n3'⟩ (by assumption) (by assumption) (fun p hp => ?_) (hI9 _ _) (by kst_all) (by walk_at "mine_same") ⟨hP1, ?_, hP2, by dsimp only; omega⟩
      · simp only [List.mem_cons] at hp ⊢
        rcases hp with h | h | h | h <;> simp [h]
      · dsimp only
        rw [hme, meetsF_succ, meetF_zero, List.append_nil]
    | succ j =>
      obtain ⟨⟨v2, g⟩, hq2⟩ : ∃ q, vfs[j]? = some q := ⟨_, List.getElem?_eq_getElem (by omega)⟩
      obtain ⟨ga, gll, gtk, gtp, gps, gn1, gn2, rfl, hga1, hga2, hga3⟩ := hf _ (List.mem_of_getElem? hq2)
      obtain ⟨⟨hgg1, hgg2, hgg3⟩, hgg4, hgg5⟩ := hg _ (List.mem_of_getElem? hq2)
      obtain ⟨hcc1, hcc2, hcc3⟩ := hc _ (List.mem_of_getElem? hq2) _ (List.mem_of_getElem? hq)
      dsimp only at hga1 hga2 hga3 hgg1 hgg2 hgg3 hgg4 hgg5 hcc1 hcc2 hcc3
      have hqg : (vfs.map (·.2))[j]? = some g := by rw [List.getElem?_map, hq2]; rfl
      have hx1 : (vfs.map (·.1))[(((j + 1 : Nat) : Int) - 1).toNat]? = some (.ref ga) := by
        rw [show (((j + 1 : Nat) : Int) - 1).toNat = j by omega, List.getElem?_map, hq2]; rfl
      have hmf : meetF (vfs.map (·.2)) (j + 1) = if g.k = f.k then abv (commF g.p f.p) else [] := meetF_succ hqg hqf
      k_steps
      · unfold Hold
        rename Fr _ _ _ _ => F15
        rename News _ _ _ _ => N15
        rename_i la2 aps2 ann2 h10 tk10 haps2 off10
        have hk9 : g.k = f.k := by first | assumption | (simpa using ‹(g.k == f.k) = true›)
        rw [if_pos hk9] at hmf
        have hla2 : ma ≠ la2 := off10 (ma, listOf (tv me).toArray n1') (by simp)
        have hal2 : aps2.length ≤ 5 := by rw [← List.length_map (f := (·.1)), haps2]; exact hcc3
        k_dflt (refine iadd_led (vs := tv me) (ws := tv aps2) (n := n1') (rest := (la2, listOf (tv aps2).toArray ann2) :: (I, oI) :: (pa, listOf (tv (pl ++ aps)).toArray n3') :: news) F15 (cb_drop N15 fun p hp => ?mem2) (fun p hp => ?off2) (.head _) (by rw [tv_length, tv_length]; omega) ?_)
        case mem2 =>
          simp only [List.mem_cons] at hp ⊢
          rcases hp with h | h | h | h | h <;> simp [h]
        case off2 =>
          rcases List.mem_cons.mp hp with rfl | hp
          · exact Ne.symm hla2
          rcases List.mem_cons.mp hp with rfl | hp
          · exact Ne.symm hmI
          rcases List.mem_cons.mp hp with rfl | hp
          · exact Ne.symm hmp
          · exact hmn p hp
        intro h15 n5' F17 N17
        have N18 : News _ _ _ ((ma, listOf (tv (me ++ aps2)).toArray n5') :: (I, oI) :: (pa, listOf (tv (pl ++ aps)).toArray n3') :: news) := fun p hp => N17 p (by
          have e9 : tv (me ++ aps2) = tv me ++ tv aps2 := List.map_append
          rw [e9] at hp
          simp only [List.mem_cons] at hp ⊢
          rcases hp with h | h | h | h <;> simp [h])
        clear F15 N15 N17
        (try dsimp only)
        k_steps
        refine turn_end ⟨me ++ aps2, pl ++ aps, n5', n3'⟩ (by assumption) (by assumption) (fun p hp => ?_) (hI9 _ _) (by kst_all) (by walk_at "mine_same") ⟨hP1, ?_, hP2, ?_⟩
        · simp only [List.mem_cons] at hp ⊢
          rcases hp with h | h | h | h <;> simp [h]
        · dsimp only
          rw [List.map_append, hme, haps2, meetsF_succ _ (j + 1), hmf]
        · dsimp only; rw [List.length_append]; omega
      · have hk9 : ¬ g.k = f.k := by first | assumption | (simpa using ‹(g.k == f.k) = false›)
        rw [if_neg hk9] at hmf
        refine turn_end ⟨me, pl ++ aps, n1', n3'⟩ (by assumption) (by assumption) (fun p hp => ?_) (hI9 _ _) (by kst_all) (by walk_at "mine_same") ⟨hP1, ?_, hP2, by dsimp only; omega⟩
        · simp only [List.mem_cons] at hp ⊢
          rcases hp with h | h | h | h <;> simp [h]
        · dsimp only
          rw [hme, meetsF_succ _ (j + 1), hmf, List.append_nil]
  · rintro ⟨me, pl, n1', n2'⟩ u' h2 tk2 ⟨hpl, hme, hb1, hb2⟩ F3 N4
    replace hpl : pl.map (·.1) = placesF (vfs.map (·.2)) 6 := hpl
    replace hme : me.map (·.1) = meetsF (vfs.map (·.2)) 6 := hme
    replace hb1 : pl.length ≤ 5 * 6 := hb1
    replace hb2 : me.length ≤ 5 * 6 := hb2
    dsimp only [kstB] at F3 N4
    (try dsimp only)
    clear hma hpa F2 N3
    k_steps
    refine unord_spec (es := me) (as := pl) (n1 := n1') (n2 := n2') (news := news) (fun z => ?sub) (by omega) (by omega) (Nat.ne_of_lt hm2.1) (fun p hp => Nat.ne_of_lt (hm1 p hp)) (fun p hp => Nat.ne_of_lt (ktn_ltOf hm2.2 p hp)) (by assumption) F3 (by assumption) N4 (by assumption) (by first | exact rfl | assumption) (by ktr_room) (by ktr_units) ?_
    case sub => unfold cnt; rw [hme, hpl]; exact hsub z
    intro q mi r n9 h9 tk9 hr hrl F9 N9
    (try dsimp only)
    (try k_fold)
    k_steps
    refine hret q mi pa r n9 _ _ (fun z => ?_) (by assumption) (cb_drop (by assumption) fun p hp => ?_)
    · have h1 := hr z
      unfold cnt at h1 ⊢
      rw [hme, hpl] at h1
      exact h1
    · simp only [List.mem_cons] at hp ⊢
      rcases hp with h | h | h | h <;> simp [h]
end
end
/- part D1 -/
theorem freshD1 : True := by
  w_top off
  trivial
section
set_option Elab.async false
set_option maxRecDepth 100000
set_option maxHeartbeats 8000000
set_option linter.unusedVariables false
abbrev Row := Str × Addr × List (Int × Tok)
def rowsKvs (rows : List Row) : List (Str × Value) := rows.map fun r => (r.1, .ref r.2.1)
def rowKs (r : Row) : List Int := r.2.2.map (·.1)
def rowsD (rows : List Row) : List (Str × List Int) := rows.map fun r => (r.1, rowKs r)
def RowsIn (ex : List (Addr × Obj)) (rows : List Row) : Prop := ∀ r ∈ rows, ∃ n, (r.2.1, listOf (iv r.2.2).toArray n) ∈ ex
def lookD (D : List (Str × List Int)) (x : Str) : Option (List Int) := (D.find? fun p => decide (p.1 = x)).map (·.2)
def addD (D : List (Str × List Int)) (x : Str) (k : Int) : List (Str × List Int) :=
  match lookD D x with
  | some ks => if ks.contains k = true then D else D.map (fun p => if p.1 = x then (p.1, ks ++ [k]) else p)
  | none => D ++ [(x, [k])]
def textF (ns : List Str) (i : Nat) : Str := Str.ofString "/" ++ Txt.join (Str.ofString "/") (ns.take i)
def stepD (ns : List Str) (k : Int) (D : List (Str × List Int)) (i : Nat) : List (Str × List Int) := (List.range i).foldl (fun D j => addD D (textF ns j) k) D
theorem stepD_succ (ns : List Str) (k : Int) (D : List (Str × List Int)) (i : Nat) : stepD ns k D (i + 1) = addD (stepD ns k D i) (textF ns i) k := by
  unfold stepD; rw [List.range_succ, List.foldl_append]; rfl
def dueD (l : List Int) : List (Str × List Int) := l.foldl (fun D n => stepD (nsOf n) (n.fmod 3) D ((nsOf n).length + 1)) []
theorem dueD_snoc (l : List Int) (n : Int) : dueD (l ++ [n]) = stepD (nsOf n) (n.fmod 3) (dueD l) ((nsOf n).length + 1) := by unfold dueD; rw [List.foldl_append]; rfl
theorem row_find (rows : List Row) (x : Str) : (rowsD rows).find? (fun p => decide (p.1 = x)) = (rows.find? fun r => decide (r.1 = x)).map fun r => (r.1, rowKs r) := by
  unfold rowsD; rw [List.find?_map]; rfl
theorem look_rows (rows : List Row) (x : Str) : lookD (rowsD rows) x = (rows.find? fun r => decide (r.1 = x)).map rowKs := by
  unfold lookD; rw [row_find, Option.map_map]; rfl
theorem value_rows (rows : List Row) (x : Str) : valueAt (rowsKvs rows) x = (rows.find? fun r => decide (r.1 = x)).map fun r => .ref r.2.1 := by
  unfold valueAt rowsKvs; rw [List.find?_map, Option.map_map]; rfl
theorem any_rows (rows : List Row) (x : Str) : (rowsKvs rows).any (fun kv => kv.1 = x) = (rows.find? fun r => decide (r.1 = x)).isSome := by
  unfold rowsKvs; rw [List.any_map, Bool.eq_iff_iff, List.any_eq_true, List.find?_isSome]; exact Iff.rfl
theorem add_none {rows : List Row} {x : Str} {k : Int} (h : (rows.find? fun r => decide (r.1 = x)) = none) (ka : Addr) (t : Tok) :
    stored (rowsKvs rows) x (.ref ka) = rowsKvs (rows ++ [(x, ka, [(k, t)])]) ∧ rowsD (rows ++ [(x, ka, [(k, t)])]) = addD (rowsD rows) x k := by
  constructor
  · unfold stored
    rw [any_rows, h]
    simp [rowsKvs]
  · unfold addD
    rw [look_rows, h]
    simp [rowsD, rowKs]
theorem add_old {rows : List Row} {x : Str} {k : Int} {r : Row} (h : (rows.find? fun r => decide (r.1 = x)) = some r) (hk : (rowKs r).contains k = true) : rowsD rows = addD (rowsD rows) x k := by
  unfold addD
  rw [look_rows, h]
  simp only [Option.map_some, hk, if_true]
theorem add_more {rows : List Row} {x : Str} {k : Int} {r : Row} (h : (rows.find? fun r => decide (r.1 = x)) = some r) (hk : (rowKs r).contains k = false) (ka : Addr) (t : Tok) :
    stored (rowsKvs rows) x (.ref ka) = rowsKvs (rows.map fun q => if q.1 = x then (q.1, ka, r.2.2 ++ [(k, t)]) else q) ∧ rowsD (rows.map fun q => if q.1 = x then (q.1, ka, r.2.2 ++ [(k, t)]) else q) = addD (rowsD rows) x k := by
  constructor
  · unfold stored
    rw [any_rows, h]
    simp only [Option.isSome_some, if_true]
    unfold rowsKvs
    rw [List.map_map, List.map_map]
    refine List.map_congr_left fun q _ => ?_
    simp only [Function.comp]
    split <;> rfl
  · unfold addD
    rw [look_rows, h]
    simp only [Option.map_some, hk, Bool.false_eq_true, if_false]
    unfold rowsD
    rw [List.map_map, List.map_map]
    refine List.map_congr_left fun q _ => ?_
    simp only [Function.comp]
    split
    · unfold rowKs; simp
    · rfl
theorem kf_iv : ∀ ks : List (Int × Tok), kf_ints (iv ks) = true
  | [] => rfl
  | _ :: r => kf_iv r
theorem any_iv (k : Int) : ∀ ks : List (Int × Tok), (iv ks).any (isInt k) = (ks.map (·.1)).contains k
  | [] => rfl
  | (a, t) :: r => by
    show ((a == k) || (iv r).any (isInt k)) = _
    rw [any_iv k r, List.map_cons, List.contains_cons, BEq.comm]
theorem RowsIn.mono {ex ex' : List (Addr × Obj)} {rows : List Row} (h : RowsIn ex rows) (hs : ∀ p ∈ ex, p ∈ ex') : RowsIn ex' rows := fun r hr => let ⟨n, hm⟩ := h r hr; ⟨n, hs _ hm⟩
section
variable {prog : Program} {w : World} {A : Around} {E : Value → Shared → Prop} {s : Shared} {h₀ : Heap} {L D : Addr} {m : Str → Option Value} {news : List (Addr × Obj)}
theorem notin_led {ks : List (Int × Tok)} {n : Nat} {k : Int} {t : Tok} {Q : Value → Shared → Prop} (N : News h₀ L s.heap news) (hm : (D, listOf (iv ks).toArray n) ∈ news) (h : Q (.bool (!((ks.map (·.1)).contains k))) s) :
    wpAny (model prog w) A (compareOp .NotIn (.int k t) (.ref D)) Q E s :=
  kf_notin N hm (by rw [List.toList_toArray]; exact kf_iv ks) (by rw [List.toList_toArray, any_iv]) h
end
structure DuS where
  o : Obj
  rows : List Row
  ex : List (Addr × Obj)
end
/- part M11 -/
theorem freshM11 : True := by
  w_top off
  trivial
section
set_option Elab.async false
set_option maxRecDepth 100000
set_option maxHeartbeats 8000000
set_option linter.unusedVariables false
open LCg
abbrev lc2 (elt t0 i0 t1 i1 : Expr) (scope : Scope) (pos : Pos) : Expr := .ListComp elt [⟨t0, i0, [], 0⟩, ⟨t1, i1, [], 0⟩] scope pos
theorem compTurn2_0 (elt t0 i0 t1 i1 : Expr) (scope : Scope) (pos : Pos) (it acc : Value) (env : Env) :
    compTurn (lc2 elt t0 i0 t1 i1 scope pos) 0 it acc env = (do
      standAt i0.pos
      match ← pyNext it with
      | none => pure (.done .next)
      | some v =>
        letOwnedTupleGo t0 it v
        assign t0 env v
        let mut ok := true
        for c in ([] : List Expr) do
          if ok then ok ← isTrue c env (eval c env)
        if ok then
          let x ← eval i1 env
          standAt i1.pos
          let x ← foldedSetIterable i1 env x
          let _ ← runOwn (.compStart (lc2 elt t0 i0 t1 i1 scope pos) 1 (← holding [x] (pyIter x)) acc env) env
        again (.compLoop (lc2 elt t0 i0 t1 i1 scope pos) 0 it acc env)) := by rfl
theorem compTurn2_1 (elt t0 i0 t1 i1 : Expr) (scope : Scope) (pos : Pos) (it acc : Value) (env : Env) :
    compTurn (lc2 elt t0 i0 t1 i1 scope pos) 1 it acc env = (do
      standAt i1.pos
      match ← pyNext it with
      | none => pure (.done .next)
      | some v =>
        letOwnedTupleGo t1 it v
        assign t1 env v
        let mut ok := true
        for c in ([] : List Expr) do
          if ok then ok ← isTrue c env (eval c env)
        if ok then
          (do let _ ← call (.builtin "list.append") [acc, ← eval elt env])
        again (.compLoop (lc2 elt t0 i0 t1 i1 scope pos) 1 it acc env)) := by rfl
section
variable {prog : Program} {w : World} {A : Around} {E : Value → Shared → Prop} {R : Result → Shared → Prop} {s : Shared} {elt t0 i0 t1 i1 : Expr} {scope : Scope} {pos : Pos} {it acc : Value} {env : Env}
theorem compStart2 {d : Nat} (hd : d = 0 ∨ d = 1)
    (h0 : codeAny (model prog w) A (.compLoop (lc2 elt t0 i0 t1 i1 scope pos) d it acc env) R s)
    (h : wpAny (model prog w) A (pyIter it) (fun it' s' => codeAny (model prog w) A (.compLoop (lc2 elt t0 i0 t1 i1 scope pos) d it' acc env) R s')
      (notedBy (model prog w) A env fun x s' => R (.error x) s') s) :
    codeAny (model prog w) A (.compStart (lc2 elt t0 i0 t1 i1 scope pos) d it acc env) R s := by
  refine codeAny_of_tree ?_
  show wpAny _ A ((compStart (lc2 elt t0 i0 t1 i1 scope pos) d it acc env).onRaise (fun x => do noteFrame x env; standAt theWindowsPlace)) _ _ s
  refine wpAny_notedAt ?_
  rcases hd with rfl | rfl
  · unfold compStart
    show wpAny _ A (ask >>= _) _ _ s
    refine wpAny_bind (wpAny_askSetting (wpAny_ite ?_))
    split
    · first
        | exact wpAny_bind (wpAny_pure (wpAny_pure (And.intro rfl h0)))
        | exact wpAny_pure (And.intro rfl h0)
    · first
        | exact wpAny_bind (wpAny_rule (wpAny_bind (wpAny_standAt (wpAny_bind (wpAny_mono h (fun it' s' h' => wpAny_pure (And.intro rfl h')) fun _ _ x => x)))))
        | (refine wpAny_bind (wpAny_rule ?_); show wpAny _ _ (standAt i0.pos >>= _) _ _ s; exact wpAny_bind (wpAny_standAt (wpAny_bind (wpAny_mono h (fun it' s' h' => wpAny_pure (And.intro rfl h')) fun _ _ x => x))))
  · unfold compStart
    show wpAny _ A (ask >>= _) _ _ s
    refine wpAny_bind (wpAny_askSetting (wpAny_ite ?_))
    split
    · first
        | exact wpAny_bind (wpAny_pure (wpAny_pure (And.intro rfl h0)))
        | exact wpAny_pure (And.intro rfl h0)
    · first
        | exact wpAny_bind (wpAny_rule (wpAny_bind (wpAny_standAt (wpAny_bind (wpAny_mono h (fun it' s' h' => wpAny_pure (And.intro rfl h')) fun _ _ x => x)))))
        | (refine wpAny_bind (wpAny_rule ?_); show wpAny _ _ (standAt i1.pos >>= _) _ _ s; exact wpAny_bind (wpAny_standAt (wpAny_bind (wpAny_mono h (fun it' s' h' => wpAny_pure (And.intro rfl h')) fun _ _ x => x))))
theorem compLoop2_1 (I : Nat → Shared → Prop)
    (turn : ∀ n s, I n s → wpAny (model prog w) A (pyNext it) (fun r s₁ => match r with
      | none => R (.ok .next) s₁
      | some v => wpAny (model prog w) A (assign t1 env v) (fun _ s₂ =>
          wpAny (model prog w) A (eval elt env) (fun x s₄ =>
              wpAny (model prog w) A (call (.builtin "list.append") [acc, x]) (fun _ s₅ => ∃ m, m < n ∧ I m s₅) (notedBy (model prog w) A env fun e s' => R (.error e) s') s₄) (notedBy (model prog w) A env fun e s' => R (.error e) s') s₂) (notedBy (model prog w) A env fun e s' => R (.error e) s') s₁) (notedBy (model prog w) A env fun e s' => R (.error e) s') s)
    (n : Nat) (h : I n s) (ht : ∀ v, letOwnedTupleGo t1 it v = pure () := by intro _; rfl) :
    codeAny (model prog w) A (.compLoop (lc2 elt t0 i0 t1 i1 scope pos) 1 it acc env) R s := by
  refine codeAny_loop rfl I (fun n s hI => ?_) n h
  show wpAny _ A ((compTurn (lc2 elt t0 i0 t1 i1 scope pos) 1 it acc env).onRaise (fun x => do noteFrame x env; theTreesLotGoes x)) _ _ s
  refine wpAny_noted ?_
  rw [compTurn2_1]
  refine wpAny_bind (wpAny_standAt (wpAny_bind (wpAny_mono (turn n s hI) (fun r s₁ h₁ => ?_) fun _ _ h' => h')))
  cases r with
  | none => exact wpAny_pure h₁
  | some v =>
    refine wpAny_bind (wpAny_of_eq (ht v) ?_)
    refine wpAny_bind (wpAny_mono h₁ (fun _ s₂ h₂ => ?_) fun _ _ h' => h')
    simp only [List.forIn_nil]
    refine wpAny_bind (wpAny_pure ?_)
    simp only [if_true]
    exact wpAny_bind (wpAny_bind (wpAny_mono h₂ (fun x s₄ h₄ => wpAny_bind (wpAny_mono h₄ (fun _ s₅ h₅ => wpAny_pure (wpAny_pure ⟨rfl, h₅⟩)) fun _ _ h' => h')) fun _ _ h' => h'))
theorem compLoop2_0 (I : Nat → Shared → Prop)
    (turn : ∀ n s, I n s → wpAny (model prog w) A (pyNext it) (fun r s₁ => match r with
      | none => R (.ok .next) s₁
      | some v => wpAny (model prog w) A (assign t0 env v) (fun _ s₂ =>
          wpAny (model prog w) A (eval i1 env) (fun x s₄ =>
            wpAny (model prog w) A (pyIter x) (fun it1 s₅ =>
              codeAny (model prog w) (A.mark none) (.compStart (lc2 elt t0 i0 t1 i1 scope pos) 1 it1 acc env) (fun r s' => match r with | .ok f => ∃ m, m < n ∧ I m s' | .error e => cameBackBy (model prog w) A env (notedBy (model prog w) A env fun e s' => R (.error e) s') e s') s₅) (notedBy (model prog w) A env fun e s' => R (.error e) s') s₄) (notedBy (model prog w) A env fun e s' => R (.error e) s') s₂) (notedBy (model prog w) A env fun e s' => R (.error e) s') s₁) (notedBy (model prog w) A env fun e s' => R (.error e) s') s)
    (n : Nat) (h : I n s) (ht : ∀ v, letOwnedTupleGo t0 it v = pure () := by intro _; rfl) (hs : ∀ x, foldedSetIterable i1 env x = pure x := by intro _; rfl) :
    codeAny (model prog w) A (.compLoop (lc2 elt t0 i0 t1 i1 scope pos) 0 it acc env) R s := by
  refine codeAny_loop rfl I (fun n s hI => ?_) n h
  show wpAny _ A ((compTurn (lc2 elt t0 i0 t1 i1 scope pos) 0 it acc env).onRaise (fun x => do noteFrame x env; theTreesLotGoes x)) _ _ s
  refine wpAny_noted ?_
  rw [compTurn2_0]
  refine wpAny_bind (wpAny_standAt (wpAny_bind (wpAny_mono (turn n s hI) (fun r s₁ h₁ => ?_) fun _ _ h' => h')))
  cases r with
  | none => exact wpAny_pure h₁
  | some v =>
    refine wpAny_bind (wpAny_of_eq (ht v) ?_)
    refine wpAny_bind (wpAny_mono h₁ (fun _ s₂ h₂ => ?_) fun _ _ h' => h')
    simp only [List.forIn_nil]
    refine wpAny_bind (wpAny_pure ?_)
    simp only [if_true]
    refine wpAny_bind (wpAny_mono h₂ (fun x s₄ h₄ => ?_) fun _ _ h' => h')
    refine wpAny_bind (wpAny_standAt (wpAny_bind (wpAny_of_eq (hs x) ?_)))
    refine wpAny_bind (wpAny_holding (wpAny_mono h₄ (fun it1 s₅ h₅ => ?_) fun _ _ h' => h'))
    exact wpAny_bind (wpAny_mono (wpAny_runOwn h₅) (fun _ s₆ h₆ => wpAny_pure ⟨rfl, h₆⟩) fun _ _ h' => h')
end
end
/- part M12 -/
theorem freshM12 : True := by
  w_top off
  trivial
section
set_option Elab.async false
set_option maxRecDepth 100000
set_option maxHeartbeats 8000000
set_option linter.unusedVariables false
open LCg
theorem iv_some {ks : List (Int × Tok)} {i : Nat} (h : i < ks.length) : ∃ v, (iv ks).toArray[i]? = some v := by
  refine ⟨(iv ks)[i]'(by rw [iv_length]; exact h), ?_⟩
  rw [List.getElem?_toArray, List.getElem?_eq_getElem]
theorem lst_tv_snoc (ps : List (Str × Tok)) (x : Str) (t : Tok) : ({ cls := .type "list", data := .seq ((tv ps).toArray.push (.str x t)) ((tv ps).length + 1) } : Obj) = lst (tv (ps ++ [(x, t)])) := by
  rw [lst_snoc, tv_snoc]
section
variable {prog : Program} {w : World} {A : Around} {E : Value → Shared → Prop} {R : Result → Shared → Prop} {s₁ : Shared} {h₀ : Heap} {L C D J l : Addr} {m : Str → Option Value} {env : Env} {news : List (Addr × Obj)}
  {x y : Str} {px px2 py pos : Pos} {i0 i1 : Expr} {scope : Scope} {cl : List (Str × Addr)}
theorem inner2 {ks : List (Int × Tok)} {nn : Nat} {xt : Str} {t : Tok} {m₀ : Str → Option Value} {ps : List (Str × Tok)} {h : Heap} {tk : Nat}
    (hh : A.handled = none) (hkind : scope.kind = .function) (hx : scope.names.lookup x = some .local) (hy : scope.names.lookup y = some .local) (hxy : x ≠ y) (hdb : (x == ("__debug__" : Str)) = false)
    (hJD : J ≠ D) (hJC : J ≠ C) (hJL : J ≠ L) (hJ0 : h₀.get? J = none) (hCL : C ≠ L) (hC0 : h₀.get? C = none) (hDL : D ≠ L) (hD0 : h₀.get? D = none) (hDC : D ≠ C)
    (hJn : ∀ p ∈ news, p.1 ≠ J) (hCn : ∀ p ∈ news, p.1 ≠ C) (hDn : ∀ p ∈ news, p.1 ≠ D) (hl : (l, listOf (iv ks).toArray nn) ∈ news) (hsz : ps.length + ks.length ≤ 1000)
    (F : Fr h₀ L h m) (hC : h.Ns C m₀) (hm : m₀ x = some (.str xt t)) (N : News h₀ L h ((D, lst (tv ps)) :: news)) (hit : h.IsListIter J l 0)
    (hR : ∀ h' tk' m' ps', ps'.map (·.1) = ps.map (·.1) ++ ks.map (fun _ => xt) → Fr h₀ L h' m → h'.Ns C m' → News h₀ L h' ((D, lst (tv ps')) :: news) → (∀ b o, b ≠ D → b ≠ C → b ≠ J → h.get? b = some o → h'.get? b = some o) → R (.ok .next) { s₁ with heap := h', toks := tk' }) :
    codeAny (model prog w) A (.compLoop (lc2 (.Name x px2) (.Name x px) i0 (.Name y py) i1 scope pos) 1 (.ref J) (.ref D) (compEnvC scope cl C env)) R { s₁ with heap := h, toks := tk } := by
  have hlJ : l ≠ J := hJn _ hl
  have hlC : l ≠ C := hCn _ hl
  have hlD : l ≠ D := hDn _ hl
  have W := Walks.list (prog := prog) (w := w) (A := A) hh J l hlJ (iv ks).toArray
  have hlen : (iv ks).toArray.size = ks.length := by rw [List.size_toArray, iv_length]
  rw [hlen] at W
  refine compLoop2_1 (fun n s' => ∃ h' tk' i ps' m', s' = { s₁ with heap := h', toks := tk' } ∧ i ≤ ks.length ∧ n = ks.length + 1 - i ∧ (h'.IsListIter J l i ∧ h'.IsList l (iv ks).toArray) ∧ Fr h₀ L h' m ∧ h'.Ns C m' ∧ m' x = some (.str xt t) ∧ News h₀ L h' ((D, lst (tv ps')) :: news) ∧ ps'.map (·.1) = ps.map (·.1) ++ List.replicate i xt ∧ (∀ b o, b ≠ D → b ≠ C → b ≠ J → h.get? b = some o → h'.get? b = some o)) ?_ (ks.length + 1)
    ⟨h, tk, 0, ps, m₀, rfl, Nat.zero_le _, rfl, ⟨hit, ⟨_, (N _ (.tail _ hl)).1, rfl, nn, rfl⟩⟩, F, hC, hm, N, by simp, fun _ _ _ _ _ e => e⟩
  rintro n s' ⟨h', tk', i, ps', m', rfl, hi, rfl, hst', F', hC', hm', N', hps', hkeep⟩
  by_cases hlt : i < ks.length
  · refine W.item i _ _ _ hlt hst' fun v h₂ tk₂ hPv hst₂ hk₂ => ?_
    refine wpAny_assign_Name (wpAny_storeName_local (lookup_relabel_local hy) (hC'.at' fun o e => hk₂ _ o (by simpa using Ne.symm hJC) e) (fun h₃ hn₃ hs₃ => ?_) (by simp [compEnvC, relabel, hkind]))
    have hst₃ := W.frame _ _ h₃ hst₂ fun b hb o e => hs₃.extBut b o (fun q => by
      simp only [List.mem_cons, List.not_mem_nil, or_false] at hb
      rcases hb with hb | hb
      · exact hJC (hb.symm.trans q)
      · exact hlC (hb.symm.trans q)) e
    have F₃ : Fr h₀ L h₃ m := (fr_but F' hk₂ (Ne.symm hJL) hJ0).change hs₃ hCL hC0
    have N₂ : News h₀ L h₂ ((D, lst (tv ps')) :: news) := news_but N' hk₂ fun p hp => by
      rcases List.mem_cons.mp hp with rfl | hp
      · exact Ne.symm hJD
      · exact hJn p hp
    have N₃ : News h₀ L h₃ ((D, lst (tv ps')) :: news) := fun p hp => by
      have z := N₂ p hp
      refine ⟨hs₃.extBut _ _ ?_ z.1, z.2⟩
      rcases List.mem_cons.mp hp with rfl | hp
      · exact hDC
      · exact hCn p hp
    have hv3 : (fun z => if z = y then some v else m' z) x = some (.str xt t) := by
      show (if x = y then some v else m' x) = _
      rw [if_neg hxy]; exact hm'
    refine wpAny_Name (wpAny_loadName_local (by simp [compEnvC, relabel, hkind]) (lookup_relabel_local hx) hn₃ hv3 ?_) hdb
    have hpl : ps'.length = ps.length + i := by
      have := congrArg List.length hps'
      simpa using this
    refine append_at (hsz := by rw [List.size_toArray, tv_length]; exact Nat.le_trans (by omega : ps'.length ≤ 1000) (by decide)) (N₃ _ (.head _)).1 fun h₅ hs₅ hD₅ => ?_
    obtain ⟨⟨oJ, eJ, rJ⟩, _⟩ := hst₃
    refine ⟨ks.length + 1 - (i + 1), by omega, h₅, _, i + 1, ps' ++ [(xt, t)], _, rfl, hlt, rfl, ⟨⟨oJ, hs₅.extBut _ _ hJD eJ, rJ⟩, ⟨_, hs₅.extBut _ _ hlD (N₃ _ (.tail _ hl)).1, rfl, nn, rfl⟩⟩, F₃.change hs₅ hDL hD0, hn₃.sameBut hs₅ (Ne.symm hDC), hv3, fun p hp => ?_, ?_, fun b o b1 b2 b3 e => ?_⟩
    · rcases List.mem_cons.mp hp with rfl | hp
      · refine ⟨?_, hDL, hD0⟩
        rw [← lst_tv_snoc]
        exact hD₅
      · exact ⟨hs₅.extBut _ _ (hDn p hp) (N₃ p (.tail _ hp)).1, (N₃ p (.tail _ hp)).2⟩
    · rw [List.map_append, hps', List.append_assoc, List.replicate_succ']; rfl
    · exact hs₅.extBut _ _ b1 (hs₃.extBut _ _ b2 (hk₂ b o (by simpa using b3) (hkeep b o b1 b2 b3 e)))
  · obtain rfl : i = ks.length := Nat.le_antisymm hi (Nat.not_lt.mp hlt)
    refine W.done _ _ _ hst' fun h₂ tk₂ hk₂ => ?_
    refine hR h₂ tk₂ m' ps' ?_ (fr_but F' hk₂ (Ne.symm hJL) hJ0) (hC'.at' fun o e => hk₂ _ o (by simpa using Ne.symm hJC) e) (news_but N' hk₂ fun p hp => ?_) (fun b o b1 b2 b3 e => hk₂ b o (by simpa using b3) (hkeep b o b1 b2 b3 e))
    · rw [hps', List.map_const']
    · rcases List.mem_cons.mp hp with rfl | hp
      · exact Ne.symm hJD
      · exact hJn p hp
end
end
/- part M13 -/
theorem freshM13 : True := by
  w_top off
  trivial
section
set_option Elab.async false
set_option maxRecDepth 100000
set_option maxHeartbeats 8000000
set_option linter.unusedVariables false
open LCg
def rowsFlat (rows : List Row) : List Str := rows.flatMap fun r => r.2.2.map fun _ => r.1
theorem rowsFlat_take {rows : List Row} {i : Nat} {r : Row} (h : rows[i]? = some r) : rowsFlat (rows.take (i + 1)) = rowsFlat (rows.take i) ++ r.2.2.map fun _ => r.1 := by
  unfold rowsFlat; rw [take_snoc h, List.flatMap_append]; simp
theorem rowsFlat_le {rows : List Row} {i : Nat} {r : Row} (h : rows[i]? = some r) : (rowsFlat (rows.take i)).length + r.2.2.length ≤ (rowsFlat rows).length := by
  have h1 := congrArg List.length (rowsFlat_take h)
  rw [List.length_append, List.length_map] at h1
  have h2 : (rowsFlat (rows.take (i + 1))).length ≤ (rowsFlat rows).length := by
    have e : rowsFlat rows = rowsFlat (rows.take (i + 1)) ++ rowsFlat (rows.drop (i + 1)) := by
      unfold rowsFlat; rw [← List.flatMap_append, List.take_append_drop]
    rw [e, List.length_append]; omega
  omega
section
variable {prog : Program} {w : World} {A : Around} {E : Value → Shared → Prop} {s : Shared} {h₀ : Heap} {L : Addr} {m : Str → Option Value} {env : Env}
  {x y : Str} {px px2 py pos : Pos} {i0 i1 : Expr} {scope : Scope} {cl : List (Str × Addr)} {Q : Value → Shared → Prop}
def Src2 (prog : Program) (w : World) (A : Around) (h₀ : Heap) (L : Addr) (m : Str → Option Value) (env : Env) (x : Str) (i1 : Expr) (scope : Scope) (cl : List (Str × Addr)) (Q : Value → Shared → Prop) (xv : Value) (s₁ : Shared) : Prop :=
  ∃ (td : Addr) (o : Obj) (rows : List Row) (news : List (Addr × Obj)), xv = .ref td ∧ A.handled = none ∧ (td == sysModules) = false ∧ Fr h₀ L s₁.heap m ∧ News h₀ L s₁.heap news ∧ (td, o) ∈ news ∧ o.IsDictOf (PySem.strKind prog w) (rowsKvs rows) ∧ RowsIn news rows ∧ (rowsFlat rows).length ≤ 1000 ∧
    (∀ (i : Nat) r t I oI C oC D oD m₂ h tk (E' : Value → Shared → Prop), rows[i]? = some r → valueAt (rowsKvs rows) r.1 = some (.ref r.2.1) → NsObj oC m₂ → m₂ x = some (.str r.1 t) → Fr h₀ L h m → News h₀ L h ((I, oI) :: (C, oC) :: (D, oD) :: news) →
      wpAny (model prog w) A (eval i1 (compEnvC scope cl C env)) (fun z s' => z = .ref r.2.1 ∧ ∃ tk', s' = { s₁ with heap := h, toks := tk' }) E' { s₁ with heap := h, toks := tk }) ∧
    (∀ D ps h tk, ps.map (·.1) = rowsFlat rows → Fr h₀ L h m → News h₀ L h ((D, lst (tv ps)) :: news) → (∀ p ∈ news, p.1 ≠ D) → Q (.ref D) { s₁ with heap := h, toks := tk })
theorem ListComp2 (F₀ : Fr h₀ L s.heap m) (hclos : closureFor scope env = pure cl) (hcell : ∀ y ∈ scope.names, y.2 ≠ .cell) (hkind : scope.kind = .function)
    (hnames : ∀ y ∈ scope.names, y.2 = .local → scope.names.lookup y.1 = some .local) (hx : scope.names.lookup x = some .local) (hy : scope.names.lookup y = some .local) (hxy : x ≠ y) (hdb : (x == ("__debug__" : Str)) = false)
    (h : wpAny (model prog w) A (eval i0 env) (Src2 prog w A h₀ L m env x i1 scope cl Q) E s)
    (hs : ∀ x, foldedSetIterable i0 env x = pure x := by intro _; rfl) (hs1 : ∀ e x, foldedSetIterable i1 e x = pure x := by intro _ _; rfl) :
    wpAny (model prog w) A (eval (lc2 (.Name x px2) (.Name x px) i0 (.Name y py) i1 scope pos) env) Q E s := by
  rw [eval_ListComp]
  refine wpAny_comprehension_free (use := none) rfl hs hclos hkind hnames (wpAny_mono h (fun xv s₁ h₁ => ?_) fun _ _ e => e)
  obtain ⟨td, o, rows, news, rfl, hh, hsm, F, N, htd, hd, hri, hfl, hi2, fin⟩ := h₁
  obtain ⟨ep, hda⟩ := Heap.DictOf.dictAt (Heap.dictOf_iff.mpr ⟨o, (N _ htd).1, hd⟩)
  have hlt : td < s₁.heap.objs.size := Heap.lt_size (N _ htd).1
  refine wpAny_pyIter_dict hsm hda ?_
  refine wpAny_newObj_type ?_
  have W := Walks.dictKeys (prog := prog) (w := w) (knd := PySem.strKind prog w) hh s₁.heap.objs.size td (Nat.ne_of_lt hlt) (rowsKvs rows) ep
  have hklen : (rowsKvs rows).length = rows.length := by unfold rowsKvs; exact List.length_map ..
  have up1 : ∀ b o, s₁.heap.get? b = some o → (s₁.heap.push { cls := .type "dict_keyiterator", data := .fields #[.ref td, .int 0 0, .int (rowsKvs rows).length 0, .int ep 0] }).get? b = some o := fun b o e => Heap.get?_push_of_some _ e
  have F1 : Fr h₀ L (s₁.heap.push { cls := .type "dict_keyiterator", data := .fields #[.ref td, .int 0 0, .int (rowsKvs rows).length 0, .int ep 0] }) m := F.push _
  have hI0 : (s₁.heap.push { cls := .type "dict_keyiterator", data := .fields #[.ref td, .int 0 0, .int (rowsKvs rows).length 0, .int ep 0] }).IsKeyIter s₁.heap.objs.size td 0 (rowsKvs rows).length ep := ⟨_, Heap.get?_push_size _ rfl, rfl, rfl⟩
  have hIL : s₁.heap.objs.size ≠ L := Nat.ne_of_gt F.ns.lt
  have hIh : h₀.get? s₁.heap.objs.size = none := next_is_new F
  have hIn : ∀ p ∈ news, p.1 ≠ s₁.heap.objs.size := fun p hp => Nat.ne_of_lt (Heap.lt_size (N p hp).1)
  have hz1 : (s₁.heap.push { cls := .type "dict_keyiterator", data := .fields #[.ref td, .int 0 0, .int (rowsKvs rows).length 0, .int ep 0] }).objs.size = s₁.heap.objs.size + 1 := Heap.size_push ..
  generalize hH1 : s₁.heap.push { cls := .type "dict_keyiterator", data := .fields #[.ref td, .int 0 0, .int (rowsKvs rows).length 0, .int ep 0] } = H1 at *
  generalize hI : s₁.heap.objs.size = I at *
  have F2 : Fr h₀ L (H1.push { cls := .type "list", data := .seq ([] : List Value).toArray }) m := F1.push _
  have hDL : H1.objs.size ≠ L := Nat.ne_of_gt F1.ns.lt
  have hDh : h₀.get? H1.objs.size = none := next_is_new F1
  have hID : I ≠ H1.objs.size := by rw [hz1]; exact Nat.ne_of_lt (Nat.lt_succ_self _)
  have hDn : ∀ p ∈ news, p.1 ≠ H1.objs.size := fun p hp => Nat.ne_of_lt (Heap.lt_size (up1 _ _ (N p hp).1))
  have hD2 : (H1.push { cls := .type "list", data := .seq ([] : List Value).toArray }).get? H1.objs.size = some (lst (tv [])) := Heap.get?_push_size _ rfl
  have up2 : ∀ b o, H1.get? b = some o → (H1.push { cls := .type "list", data := .seq ([] : List Value).toArray }).get? b = some o := fun b o e => Heap.get?_push_of_some _ e
  have hz2 : (H1.push { cls := .type "list", data := .seq ([] : List Value).toArray }).objs.size = H1.objs.size + 1 := Heap.size_push ..
  refine wpAny_newFunctionEnv hcell (by intro y hy; simp at hy) (fun h₁ hns₁ hsb₁ => ?_) hkind
  dsimp only at hns₁ hsb₁ ⊢
  generalize hH2 : H1.push { cls := .type "list", data := .seq ([] : List Value).toArray } = H2 at *
  have hCL : H2.objs.size ≠ L := Nat.ne_of_gt F2.ns.lt
  have hCh : h₀.get? H2.objs.size = none := next_is_new F2
  have hCI : I ≠ H2.objs.size := by rw [hz2, hz1]; exact Nat.ne_of_lt (Nat.lt_succ_of_lt (Nat.lt_succ_self _))
  have hCD : H1.objs.size ≠ H2.objs.size := by rw [hz2]; exact Nat.ne_of_lt (Nat.lt_succ_self _)
  have hCn : ∀ p ∈ news, p.1 ≠ H2.objs.size := fun p hp => Nat.ne_of_lt (Heap.lt_size (up2 _ _ (up1 _ _ (N p hp).1)))
  have htI : td ≠ I := hIn _ htd
  have htD : td ≠ H1.objs.size := hDn _ htd
  have htC : td ≠ H2.objs.size := hCn _ htd
  have old : ∀ b o, b ≠ H2.objs.size → H2.get? b = some o → h₁.get? b = some o := fun b o hb e => hsb₁.extBut b o hb (Heap.get?_push_of_some _ e)
  have F3 : Fr h₀ L h₁ m := (F2.push _).change hsb₁ hCL hCh
  have N3 : News h₀ L h₁ ((H1.objs.size, lst (tv [])) :: news) := fun p hp => by
    rcases List.mem_cons.mp hp with rfl | hp
    · exact ⟨old _ _ hCD hD2, hDL, hDh⟩
    · exact ⟨old _ _ (hCn p hp) (up2 _ _ (up1 _ _ (N p hp).1)), (N p hp).2⟩
  have hst : h₁.IsKeyIter I td 0 (rowsKvs rows).length ep ∧ h₁.DictAt (PySem.strKind prog w) td (rowsKvs rows) ep := by
    obtain ⟨o, e, r⟩ := hI0
    exact ⟨⟨o, old _ _ hCI (up2 _ _ e), r⟩, hda.at' fun o e => old _ _ htC (up2 _ _ (up1 _ _ e))⟩
  have loop : ∀ s₃ : Shared, s₃ = { s₁ with heap := h₁, toks := s₁.toks + ([] : List (Str × Value)).length } →
      codeAny (model prog w) A (.compLoop (lc2 (.Name x px2) (.Name x px) i0 (.Name y py) i1 scope pos) 0 (.ref I) (.ref H1.objs.size) (compEnvC scope cl H2.objs.size env))
        (compPost (model prog w) A E none Q (.ref H1.objs.size) H2.objs.size) s₃ := by
    rintro s₃ rfl
    refine compLoop2_0
      (fun n s' => ∃ h' tk i ps m', s' = { s₁ with heap := h', toks := tk } ∧ i ≤ rows.length ∧ n = rows.length + 1 - i ∧ (h'.IsKeyIter I td i (rowsKvs rows).length ep ∧ h'.DictAt (PySem.strKind prog w) td (rowsKvs rows) ep) ∧ Fr h₀ L h' m ∧ h'.Ns H2.objs.size m' ∧ News h₀ L h' ((H1.objs.size, lst (tv ps)) :: news) ∧ ps.map (·.1) = rowsFlat (rows.take i)) ?_ (rows.length + 1)
      ⟨h₁, _, 0, [], _, rfl, Nat.zero_le _, rfl, hst, F3, hns₁, N3, rfl⟩ (by intro _; rfl) (hs1 _)
    rintro n s' ⟨h', tk, i, ps, m', rfl, hi, rfl, hst', F', hn', N', hps⟩
    by_cases hlt' : i < rows.length
    · refine W.item i _ _ _ (by rw [hklen]; exact hlt') hst' fun v h₂ tk₂ hPv hst₂ hk₂ => ?_
      obtain ⟨k, kv, hkx, hkv⟩ := hPv
      obtain ⟨r, hr⟩ : ∃ r, rows[i]? = some r := ⟨_, List.getElem?_eq_getElem hlt'⟩
      have hkr : k = r.1 ∧ kv = .ref r.2.1 := by
        unfold rowsKvs at hkx
        rw [List.getElem?_map, hr] at hkx
        cases hkx
        exact ⟨rfl, rfl⟩
      obtain ⟨rfl, rfl⟩ := hkr
      obtain ⟨t, rfl⟩ := Value.isStrOf_shape hkv
      have hval := valueAt_of_get hda.nodup hkx
      refine wpAny_assign_Name (wpAny_storeName_local (lookup_relabel_local hx) (hn'.at' fun o e => hk₂ _ o (by simpa using Ne.symm hCI) e) (fun h₃ hn₃ hs₃ => ?_) (by simp [compEnvC, relabel, hkind]))
      have hst₃ := W.frame _ _ h₃ hst₂ fun b hb o e => hs₃.extBut b o (fun q => by
        simp only [List.mem_cons, List.not_mem_nil, or_false] at hb
        rcases hb with hb | hb
        · exact hCI (hb.symm.trans q)
        · exact htC (hb.symm.trans q)) e
      obtain ⟨oI, heI, hoI⟩ := id hst₃.1
      obtain ⟨oC, heC, hoC⟩ := ns_obj hn₃
      have F₃ : Fr h₀ L h₃ m := (fr_but F' hk₂ (Ne.symm hIL) hIh).change hs₃ hCL hCh
      have N₂ : News h₀ L h₂ ((H1.objs.size, lst (tv ps)) :: news) := news_but N' hk₂ fun p hp => by
        rcases List.mem_cons.mp hp with rfl | hp
        · exact Ne.symm hID
        · exact hIn p hp
      have N₃' : News h₀ L h₃ ((H1.objs.size, lst (tv ps)) :: news) := fun p hp => by
        have z := N₂ p hp
        refine ⟨hs₃.extBut _ _ ?_ z.1, z.2⟩
        rcases List.mem_cons.mp hp with rfl | hp
        · exact hCD
        · exact hCn p hp
      have N₃ : News h₀ L h₃ ((I, oI) :: (H2.objs.size, oC) :: (H1.objs.size, lst (tv ps)) :: news) := fun p hp => by
        rcases List.mem_cons.mp hp with rfl | hp
        · exact ⟨heI, hIL, hIh⟩
        · rcases List.mem_cons.mp hp with rfl | hp
          · exact ⟨heC, hCL, hCh⟩
          · exact N₃' p hp
      have hm₃ : (fun z => if z = x then some (Value.str r.1 t) else m' z) x = some (.str r.1 t) := by simp
      refine wpAny_mono (hi2 i r t I oI H2.objs.size oC H1.objs.size _ _ h₃ _ _ hr hval hoC hm₃ F₃ N₃) (fun z s₄ h₄ => ?_) fun _ _ e => e
      obtain ⟨rfl, tk₄, rfl⟩ := h₄
      obtain ⟨nr, hrm⟩ := hri r (List.mem_of_getElem? hr)
      have hrl : h₃.IsList r.2.1 (iv r.2.2).toArray := ⟨_, (N₃' _ (.tail _ hrm)).1, rfl, nr, rfl⟩
      refine wpAny_pyIter_list hrl ?_
      have up3 : ∀ b o, h₃.get? b = some o → (h₃.push { cls := .type "list_iterator", data := .fields #[.ref r.2.1, .int 0 0] }).get? b = some o := fun b o e => Heap.get?_push_of_some _ e
      have hJit : (h₃.push { cls := .type "list_iterator", data := .fields #[.ref r.2.1, .int 0 0] }).IsListIter h₃.objs.size r.2.1 0 := ⟨_, Heap.get?_push_size _ rfl, rfl, rfl⟩
      have lJ : ∀ {b o}, h₃.get? b = some o → b ≠ h₃.objs.size := fun e => Nat.ne_of_lt (Heap.lt_size e)
      have hflen : ps.length + r.2.2.length ≤ 1000 := by
        have h9 := rowsFlat_le hr
        have h8 := congrArg List.length hps
        rw [List.length_map] at h8
        omega
      show codeAny (model prog w) A _ _ _
      have inner : codeAny (model prog w) A (.compLoop (lc2 (.Name x px2) (.Name x px) i0 (.Name y py) i1 scope pos) 1 (.ref h₃.objs.size) (.ref H1.objs.size) (compEnvC scope cl H2.objs.size env)) _ _ :=
        inner2 (s₁ := s₁) (tk := tk₄) (ks := r.2.2) (xt := r.1) (t := t) (R := fun r s' => match r with | .ok f => ∃ m_1, m_1 < rows.length + 1 - i ∧ (∃ h' tk i ps m', s' = { s₁ with heap := h', toks := tk } ∧ i ≤ rows.length ∧ m_1 = rows.length + 1 - i ∧ (h'.IsKeyIter I td i (rowsKvs rows).length ep ∧ h'.DictAt (PySem.strKind prog w) td (rowsKvs rows) ep) ∧ Fr h₀ L h' m ∧ h'.Ns H2.objs.size m' ∧ News h₀ L h' ((H1.objs.size, lst (tv ps)) :: news) ∧ ps.map (·.1) = rowsFlat (rows.take i)) | .error e => cameBackBy (model prog w) A (compEnvC scope cl H2.objs.size env) (notedBy (model prog w) A (compEnvC scope cl H2.objs.size env) fun e s' => compPost (model prog w) A E none Q (.ref H1.objs.size) H2.objs.size (.error e) s') e s')
          hh hkind hx hy hxy hdb (Ne.symm (lJ (N₃' _ (.head _)).1)) (Ne.symm (lJ heC)) (Nat.ne_of_gt F₃.ns.lt) (next_is_new F₃) hCL hCh hDL hDh hCD (fun p hp => lJ (N₃' p (.tail _ hp)).1) hCn hDn hrm hflen (F₃.push _) (hn₃.at' fun o e => up3 _ _ e) hm₃ (fun p hp => ⟨up3 _ _ (N₃' p hp).1, (N₃' p hp).2⟩) hJit
          (fun h₅ tk₅ m₅ ps₅ hps₅ F₅ hn₅ N₅ hkeep => ⟨rows.length + 1 - (i + 1), by omega, h₅, tk₅, i + 1, ps₅, m₅, rfl, hlt', rfl,
            ⟨⟨oI, hkeep _ _ hID hCI (lJ heI) (up3 _ _ heI), hoI⟩, hst₃.2.at' fun o e => hkeep _ _ htD htC (lJ e) (up3 _ _ e)⟩, F₅, hn₅, N₅, by rw [hps₅, hps, rowsFlat_take hr]⟩)
      exact compStart2 (.inr rfl) inner (wpAny_pyIter_listiter hJit inner)
    · obtain rfl : i = rows.length := Nat.le_antisymm hi (Nat.not_lt.mp hlt')
      rw [List.take_length] at hps
      refine W.done _ _ _ (by rw [hklen] at *; exact hst') fun h₂ tk₂ hk₂ => ?_
      refine ⟨m', hn'.at' fun o e => hk₂ _ o (by simpa using Ne.symm hCI) e, fun h'' hs'' => fin _ ps h'' tk₂ hps ((fr_but F' hk₂ (Ne.symm hIL) hIh).change hs'' hCL hCh) (fun p hp => ?_) hDn⟩
      have z := news_but N' hk₂ (fun p hp => by
        rcases List.mem_cons.mp hp with rfl | hp
        · exact Ne.symm hID
        · exact hIn p hp) p hp
      refine ⟨hs''.extBut _ _ ?_ z.1, z.2⟩
      rcases List.mem_cons.mp hp with rfl | hp
      · exact hCD
      · exact hCn p hp
  exact compStart2 (.inl rfl) (loop _ rfl) (W.self 0 _ _ _ hst (loop _ rfl))
end
end
/- part D2 -/
theorem freshD2 : True := by
  w_top off
  trivial
section
set_option Elab.async false
set_option maxRecDepth 100000
set_option maxHeartbeats 8000000
set_option linter.unusedVariables false
def flatD (D : List (Str × List Int)) : List Str := D.flatMap fun p => p.2.map fun _ => p.1
theorem rowsFlat_eq (rows : List Row) : rowsFlat rows = flatD (rowsD rows) := by
  unfold rowsFlat flatD rowsD
  rw [List.flatMap_map]
  congr 1
  funext r
  show r.2.2.map _ = (rowKs r).map _
  unfold rowKs
  rw [List.map_map]; rfl
def addK (ks : List Int) (k : Int) : List Int := if ks.contains k = true then ks else ks ++ [k]
theorem look_none {D : List (Str × List Int)} {x : Str} (h : lookD D x = none) : ∀ p ∈ D, p.1 ≠ x := by
  unfold lookD at h
  rw [Option.map_eq_none_iff, List.find?_eq_none] at h
  intro p hp e
  exact h p hp (decide_eq_true e)
theorem look_some {D : List (Str × List Int)} {x : Str} {ks : List Int} (h : lookD D x = some ks) : ∃ p ∈ D, p.1 = x ∧ p.2 = ks := by
  unfold lookD at h
  rw [Option.map_eq_some_iff] at h
  obtain ⟨p, hp, e⟩ := h
  exact ⟨p, List.mem_of_find?_eq_some hp, of_decide_eq_true (List.find?_some (p := fun q : Str × List Int => decide (q.1 = x)) hp), e⟩
theorem look_cons (p : Str × List Int) (D : List (Str × List Int)) (z : Str) : lookD (p :: D) z = if p.1 = z then some p.2 else lookD D z := by
  unfold lookD
  rw [List.find?_cons]
  by_cases h : p.1 = z
  · simp [h]
  · simp [h]
theorem look_map (x : Str) (ks : List Int) (z : Str) : ∀ D : List (Str × List Int), lookD (D.map fun p => if p.1 = x then (p.1, ks) else p) z = if z = x then (lookD D z).map fun _ => ks else lookD D z
  | [] => by
    have e : lookD [] z = none := rfl
    rw [List.map_nil, e]; split <;> rfl
  | p :: D => by
    rw [List.map_cons, look_cons, look_cons, look_map x ks z D]
    by_cases h1 : p.1 = x
    · rw [if_pos h1]
      by_cases h2 : p.1 = z
      · rw [if_pos (show (p.1, ks).1 = z from h2), if_pos h2, if_pos (h2.symm.trans h1)]; rfl
      · rw [if_neg (show ¬ (p.1, ks).1 = z from h2), if_neg h2]
    · rw [if_neg h1]
      by_cases h2 : p.1 = z
      · rw [if_pos h2, if_pos h2, if_neg (fun e => h1 (h2.trans e))]
      · rw [if_neg h2, if_neg h2]
theorem look_append (D : List (Str × List Int)) (p : Str × List Int) (z : Str) : lookD (D ++ [p]) z = (lookD D z).or (if p.1 = z then some p.2 else none) := by
  induction D with
  | nil => rw [List.nil_append, look_cons]; rfl
  | cons q D ih =>
    rw [List.cons_append, look_cons, look_cons, ih]
    split <;> rfl
theorem look_add (D : List (Str × List Int)) (x : Str) (k : Int) (z : Str) : lookD (addD D x k) z = if z = x then some (addK ((lookD D x).getD []) k) else lookD D z := by
  unfold addD
  cases h : lookD D x with
  | none =>
    dsimp only
    rw [look_append]
    by_cases hz : z = x
    · subst hz; rw [h, if_pos rfl, if_pos rfl]; simp [addK]
    · rw [if_neg (fun e : x = z => hz e.symm), if_neg hz]; simp
  | some ks =>
    dsimp only
    by_cases hk : ks.contains k = true
    · rw [if_pos hk]
      by_cases hz : z = x
      · subst hz; rw [h, if_pos rfl]; simp only [Option.getD_some, addK, if_pos hk]
      · rw [if_neg hz]
    · rw [if_neg hk, look_map]
      by_cases hz : z = x
      · subst hz; rw [h, if_pos rfl, if_pos rfl]; simp only [Option.getD_some, addK, if_neg hk, Option.map_some]
      · rw [if_neg hz, if_neg hz]
theorem keys_add (D : List (Str × List Int)) (x : Str) (k : Int) (h : (D.map (·.1)).Nodup) : ((addD D x k).map (·.1)).Nodup := by
  unfold addD
  cases hl : lookD D x with
  | none =>
    dsimp only
    rw [List.map_append, List.nodup_append]
    refine ⟨h, by simp, fun a ha b hb => ?_⟩
    obtain ⟨p, hp, rfl⟩ := List.mem_map.mp ha
    have hb' : b = x := by simpa using hb
    rw [hb']
    exact look_none hl p hp
  | some ks =>
    dsimp only
    split
    · exact h
    · rw [List.map_map]
      have e : ((fun p : Str × List Int => p.1) ∘ fun p => if p.1 = x then (p.1, ks ++ [k]) else p) = fun p => p.1 := by
        funext p; simp only [Function.comp]; split <;> rfl
      rw [e]; exact h
theorem count_flat (z : Str) : ∀ D : List (Str × List Int), (D.map (·.1)).Nodup → (flatD D).count z = ((lookD D z).getD []).length
  | [], _ => rfl
  | p :: D, h => by
    rw [List.map_cons, List.nodup_cons] at h
    have ih := count_flat z D h.2
    have e : flatD (p :: D) = (p.2.map fun _ => p.1) ++ flatD D := rfl
    rw [e, List.count_append, ih, look_cons, List.map_const']
    by_cases hz : p.1 = z
    · rw [if_pos hz]
      have hn : lookD D z = none := by
        cases hl : lookD D z with
        | none => rfl
        | some ks =>
          obtain ⟨q, hq, e1, _⟩ := look_some hl
          exact absurd (List.mem_map.mpr ⟨q, hq, e1.trans hz.symm⟩) h.1
      rw [hn, hz, List.count_replicate_self]; simp
    · rw [if_neg hz, List.count_replicate, if_neg (by simpa using hz)]; simp
theorem flat_map_len (x : Str) (ks : List Int) (k : Int) : ∀ D : List (Str × List Int), (D.map (·.1)).Nodup → (∀ p ∈ D, p.1 = x → p.2 = ks) → (flatD (D.map fun p => if p.1 = x then (p.1, ks ++ [k]) else p)).length ≤ (flatD D).length + 1
  | [], _, _ => Nat.zero_le _
  | p :: D, h, hk => by
    rw [List.map_cons, List.nodup_cons] at h
    have e : ∀ (q : Str × List Int) D', (flatD (q :: D')).length = q.2.length + (flatD D').length := fun q D' => by
      show ((q.2.map fun _ => q.1) ++ flatD D').length = _
      rw [List.length_append, List.length_map]
    rw [List.map_cons, e, e]
    by_cases hp : p.1 = x
    · rw [if_pos hp]
      have hD : (D.map fun p => if p.1 = x then (p.1, ks ++ [k]) else p) = D := by
        conv => rhs; rw [← List.map_id D]
        refine List.map_congr_left fun q hq => ?_
        rw [if_neg]; rfl
        intro e1
        exact h.1 (List.mem_map.mpr ⟨q, hq, e1.trans hp.symm⟩)
      rw [hD, hk p (.head _) hp, List.length_append]
      simp only [List.length_cons, List.length_nil]; omega
    · rw [if_neg hp]
      have := flat_map_len x ks k D h.2 fun q hq => hk q (.tail _ hq)
      omega
theorem mem_look {D : List (Str × List Int)} {p : Str × List Int} (h : (D.map (·.1)).Nodup) (hp : p ∈ D) : lookD D p.1 = some p.2 := by
  induction D with
  | nil => cases hp
  | cons q D ih =>
    rw [List.map_cons, List.nodup_cons] at h
    rw [look_cons]
    rcases List.mem_cons.mp hp with rfl | hp
    · rw [if_pos rfl]
    · rw [if_neg (fun e => h.1 (List.mem_map.mpr ⟨p, hp, e.symm⟩)), ih h.2 hp]
theorem flat_add_len (D : List (Str × List Int)) (x : Str) (k : Int) (h : (D.map (·.1)).Nodup) : (flatD (addD D x k)).length ≤ (flatD D).length + 1 := by
  unfold addD
  cases hl : lookD D x with
  | none =>
    dsimp only
    unfold flatD
    rw [List.flatMap_append, List.length_append]
    simp
  | some ks =>
    dsimp only
    split
    · omega
    · refine flat_map_len x ks k D h fun p hp e => ?_
      have h9 := mem_look h hp
      rw [e, hl] at h9
      exact (Option.some.inj h9).symm
theorem step_ok (ns : List Str) (k : Int) (D : List (Str × List Int)) (h : (D.map (·.1)).Nodup) : ∀ i, ((stepD ns k D i).map (·.1)).Nodup ∧ (flatD (stepD ns k D i)).length ≤ (flatD D).length + i
  | 0 => ⟨h, Nat.le_refl _⟩
  | i + 1 => by
    obtain ⟨h1, h2⟩ := step_ok ns k D h i
    rw [stepD_succ]
    have := flat_add_len (stepD ns k D i) (textF ns i) k h1
    exact ⟨keys_add _ _ _ h1, by omega⟩
theorem due_ok : ∀ l : List Int, ((dueD l).map (·.1)).Nodup ∧ (flatD (dueD l)).length ≤ 6 * l.length := by
  intro l
  suffices H : ∀ (l : List Int) (D : List (Str × List Int)), (D.map (·.1)).Nodup → ((l.foldl (fun D n => stepD (nsOf n) (n.fmod 3) D ((nsOf n).length + 1)) D).map (·.1)).Nodup ∧ (flatD (l.foldl (fun D n => stepD (nsOf n) (n.fmod 3) D ((nsOf n).length + 1)) D)).length ≤ (flatD D).length + 6 * l.length by
    have := H l [] (by simp)
    exact ⟨this.1, Nat.le_trans this.2 (by show 0 + _ ≤ _; omega)⟩
  intro l
  induction l with
  | nil => intro D h; exact ⟨h, Nat.le_refl _⟩
  | cons n l ih =>
    intro D h
    have h1 := step_ok (nsOf n) (n.fmod 3) D h ((nsOf n).length + 1)
    have h2 := ih _ h1.1
    have h3 : (nsOf n).length ≤ 5 := okFile_five
    rw [List.foldl_cons, List.length_cons]
    exact ⟨h2.1, by omega⟩
end
/- part DU -/
theorem freshDU : True := by
  w_top off
  trivial
section
set_option Elab.async false
set_option maxRecDepth 100000
set_option maxHeartbeats 8000000
set_option linter.unusedVariables false
local macro_rules | `(tactic| walk_at "call builtin:len") => `(tactic| (k_here; (with_reducible show wpAny _ _ (call (Value.builtin "len") [Value.ref _]) _ _ _); k_dflt (refine' len_led ?k1 ?k2 ?k3 ?k4 ?_; (case k1 => k_asm); (case k2 => repeat (first | assumption | (simp; done) | refine List.Mem.tail _ ?_)); (case k3 => first | assumption | exact List.length_map .. | exact tv_length _ | rfl); (case k4 => omega)); intro tk9; (try dsimp only)))
local macro_rules | `(tactic| walk_at "subscriptTail") => `(tactic| (k_here; (with_reducible show wpAny _ _ (subscriptTail _ _ (Value.ref _) (Value.str _ _)) _ _ _); refine hold_ ?_))
local macro_rules | `(tactic| walk_at "subscriptTail Name Slice ref ref") => `(tactic| (k_here; (with_reducible show wpAny _ _ (subscriptTail _ (PySem.Expr.Slice _ _ none _) (Value.ref _) (Value.ref _)) _ _ _); refine hold_ ?_))
local macro_rules | `(tactic| walk_at "call builtin:str.join") => `(tactic| (k_here; refine hold_ ?_))
local macro_rules | `(tactic| walk_at "pyIter ref") => `(tactic| (k_here; refine hold_ ?_))
local macro_rules | `(tactic| walk_at "call builtin:sorted") => `(tactic| (k_here; refine hold_ ?_))
local macro_rules | `(tactic| walk_at "call builtin:dict.get") => `(tactic| (k_here; refine hold_ ?_))
local macro_rules | `(tactic| walk_at "compareOp NotIn int ref") => `(tactic| (k_here; refine hold_ ?_))
local macro_rules | `(tactic| walk_at "binaryOp Add ref ref") => `(tactic| (k_here; refine hold_ ?_))
local macro_rules | `(tactic| walk_at "setItem ref str") => `(tactic| (k_here; refine hold_ ?_))
local macro_rules | `(tactic| walk_at "setItem ref str ref") => `(tactic| (k_here; refine hold_ ?_))
local macro_rules | `(tactic| walk_at "eval ListComp") => `(tactic| (k_here; refine hold_ ?_))
local macro_rules | `(tactic| walk_at "call ref") => `(tactic| (k_here; (with_reducible show wpAny _ _ (call (Value.ref 174) [Value.int _ _]) _ _ _); k_dflt (refine' names2_spec ?p0 ?p1 ?k1 ?k2 ?k3 ?k4 ?k5 ?k6 ?k7 ?k8 ?_; (case k1 => k_asm); (case k2 => k_asm); (case k3 => k_asm); (case k4 => k_asm); (case k5 => k_asm); (case k6 => first | exact rfl | assumption); (case k7 => ktr_room); (case k8 => ktr_units); (case p0 => assumption); (case p1 => assumption)); intro l' ps' h' tk' hps' hpl' hpn' F' N' off'; (try dsimp only); (try k_fold)))
theorem strsAre_tv : ∀ rs : List (Str × Tok), StrsAre (tv rs) (rs.map (·.1))
  | [] => .nil
  | (x, t) :: rs => .cons x t (strsAre_tv rs)
theorem tv_of_strs : ∀ {vs : List Value} {ss : List Str}, StrsAre vs ss → ∃ rs, vs = tv rs ∧ rs.map (·.1) = ss
  | _, _, .nil => ⟨[], rfl, rfl⟩
  | _, _, .cons x t h => by
    obtain ⟨rs, rfl, rfl⟩ := tv_of_strs h
    exact ⟨(x, t) :: rs, rfl, rfl⟩
theorem iv_snoc9 (ks : List (Int × Tok)) (k : Int) (t : Tok) : iv ks ++ [.int k t] = iv (ks ++ [(k, t)]) := by unfold iv; rw [List.map_append]; rfl
theorem range_small {n : Nat} (h : n < 8) : Builtin.Range.small 0 (n : Int) 1 = true ∧ Builtin.Range.rangeSize 0 (n : Int) 1 = (n : Int) := by
  have : ∀ k : Fin 8, Builtin.Range.small 0 ((k.val : Nat) : Int) 1 = true ∧ Builtin.Range.rangeSize 0 ((k.val : Nat) : Int) 1 = ((k.val : Nat) : Int) := by decide +kernel
  exact this ⟨n, h⟩
section
variable {w : World} {mean : ExcName → Option Value} {mg mb : Str → Option Value}
  {dp un : Nat} {gd : Option (List Code)} {cn : Str} {cs : Scope} {a : Addr} {ccd : Value} {cl : List (Str × Addr)} {outer : List Env} {A₀ : Around} {base h₀ : Heap} {L : Addr} {m : Str → Option Value} {news : List (Addr × Obj)} {s : Shared} {Q E : Value → Shared → Prop}
theorem due_spec {nl : Addr} {ps : List (Int × Tok)} {n0 : Nat} (hl : (nl, listOf (iv ps).toArray n0) ∈ news) (hn : ps.length = 6) (hb : ∀ p ∈ ps, 0 ≤ p.1 ∧ p.1 < 1000000) (B : Below A₀ base outer h₀) (F : Fr h₀ L s.heap m) (X : (hd.heap_1 w.params).In h₀) (N : News h₀ L s.heap news) (T : Top vw (looseW vw []) mean mg mb h₀) (hk : cs.kind = .function) (hdp : dp + 20 < recursionLimit) (hun : un + 200 < cLine)
   (hret : ∀ r rs n' h' tk', (rs.map (·.1)).Perm (flatD (dueD (ps.map (·.1)))) → sortedS (rs.map (·.1)) = true → Fr h₀ L h' m → News h₀ L h' ((r, listOf (tv rs).toArray n') :: news) → Q (.ref r) {s with heap := h', toks := tk'}) :
   wpAny (model Challenge.rw_pd0144_01.row.prog w) (ktrTop dp un gd cn cs L a ccd cl outer) (call (.ref 212) [.ref nl]) Q E s := by
  revert X; k_fill; intro X
  refine wpAny_call ?_
  k_dflt (refine' code_defC ?k1 ?k2 ?k3 ?k4 ?k5 ?kA ?kF ?kK ?k6 ?k7 ?k8 ?k9 ?kB ?kD ?_ ?c2 ?c3 ?c4; (case kA => exact rfl); (case kF => exact rfl); (case kK => assumption); (case k1 => k_asm); (case k2 => k_asm); (case k3 => k_asm); (case k4 => k_asm); (case k5 => k_asm); (case k6 => k_is); (case k7 => k_is); (case k8 => ktr_room); (case k9 => exact BindsTo.of_eq rfl); (case kB => exact rfl); (case kD => decide +kernel); (case c2 => exact rfl); (case c3 => exact rfl); (case c4 => exact rfl); k_whole; intro g' L' h' tk' cells' FG' F' N' Y' B' X' T' l1; (try k_lt l1); k_cells Y'; (try simp only [List.cons_append, List.nil_append] at N'); (try dsimp only); (try k_lift B'); (try k_fold))
  have hcl : ∀ p ∈ news, p.1 ≠ L' + 1 := fun p hp => Nat.ne_of_lt (Nat.lt_succ_of_lt (l1 p hp))
  refine gen_Q fun Q0 hQ0 => ?_
  k_steps
  unfold Hold
  rename Fr _ _ _ _ => F1
  rename News _ _ _ _ => N1
  obtain ⟨td, od, oc, hod, hoc, hsm, N2, hlt⟩ : ∃ td od oc, Obj.IsDictOf (PySem.strKind Challenge.rw_pd0144_01.row.prog w) od (rowsKvs []) ∧ oc.data = .cell (some (.ref td)) ∧ (td == sysModules) = false ∧ News _ _ _ ((td, od) :: (L' + 1, oc) :: news) ∧ (L' + 1 < td ∧ AllLt td news) := ⟨_, _, _, by assumption, by assumption, by assumption, N1, by assumption⟩
  clear N1
  rename Obj.IsDictOf (intKind _ _) _ _ => xi
  rename PyProof.V.FlatPairs PyData.int _ _ => xf
  rename PyProof.V.FlatPairs PyData.str _ _ => xg
  clear xi xf xg
  have hct : L' + 1 ≠ td := Nat.ne_of_lt hlt.1
  have hnt : ∀ p ∈ news, p.1 ≠ td := fun p hp => Nat.ne_of_lt (ktn_ltOf hlt.2 p hp)
  refine For_invVF F1 rfl rfl ?_
  walk1
  refine iter_listL (σ := DuS) (fun c => (td, c.o) :: (L' + 1, oc) :: (c.ex ++ news)) (fun _ => []) [Str.ofString "names", Str.ofString "size", Str.ofString "text", Str.ofString "kinds"]
    (fun i c => Obj.IsDictOf (PySem.strKind Challenge.rw_pd0144_01.row.prog w) c.o (rowsKvs c.rows) ∧ RowsIn c.ex c.rows ∧ (∀ p ∈ c.ex, p.1 ≠ td ∧ p.1 ≠ L' + 1) ∧ rowsD c.rows = dueD ((ps.take i).map (·.1)) ∧ c.rows.length ≤ 10 * i ∧ (∀ r ∈ c.rows, r.2.2.length ≤ 10 * i)) ⟨od, [], []⟩ rfl (fun c => .tail _ (.tail _ (List.mem_append.mpr (.inr hl)))) F1 N2 (fun _ hp => nomatch hp) ⟨hod, fun _ h => (nomatch h), fun _ h => (nomatch h), rfl, Nat.zero_le _, fun _ h => (nomatch h)⟩ ?_ ?_
  · rintro i v ⟨o, rows, ex⟩ u' h2 tk2 I oI hv ⟨hd, hri, hex, hD, hlen, hks⟩ hoff F2 N3
    replace hd : Obj.IsDictOf (PySem.strKind Challenge.rw_pd0144_01.row.prog w) o (rowsKvs rows) := hd
    replace hri : RowsIn ex rows := hri
    replace hex : ∀ p ∈ ex, p.1 ≠ td ∧ p.1 ≠ L' + 1 := hex
    replace hD : rowsD rows = dueD ((ps.take i).map (·.1)) := hD
    replace hlen : rows.length ≤ 10 * i := hlen
    replace hks : ∀ r ∈ rows, r.2.2.length ≤ 10 * i := hks
    obtain ⟨⟨n, tn⟩, hq, rfl⟩ := iv_get hv
    have hi : i < ps.length := (List.getElem?_eq_some_iff.mp hq).1
    obtain ⟨hb0, hb1⟩ := hb _ (List.mem_of_getElem? hq)
    dsimp only at hb0 hb1
    obtain ⟨hd0, hd1⟩ := fdiv3 hb0 hb1
    clear F1 N2
    dsimp only [kstB] at F2 N3
    (try dsimp only)
    refine gen_Q fun Q2 hQ2 => ?_
    k_steps
    unfold Hold
    rename Fr _ _ _ _ => F5
    rename News _ _ _ _ => N5
    obtain ⟨ln, nps, hln, hps, hpl, hpn, N6⟩ : ∃ ln nps, frMap F5 (Str.ofString "names") = some (.ref ln) ∧ nps.map (·.1) = namesF (figs (n.fdiv 3)) ∧ nps.length ≤ 5 ∧ (∀ p ∈ nps, p.1.length ≤ 2) ∧ News _ _ _ ((td, o) :: (L' + 1, oc) :: (ex ++ ((ln, listOf (tv nps).toArray (tv nps).length) :: (I, oI) :: news))) := ⟨_, _, rfl, by assumption, by assumption, by assumption, fun p hp => N5 p (by
      simp only [List.mem_cons, List.mem_append] at hp ⊢
      rcases hp with h | h | h | h | h | h <;> simp [h])⟩
    clear N5
    have e9 := (Value.ref.inj (Option.some.inj (show some (Value.ref _) = some (Value.ref ln) from hln))).symm
    clear hln
    subst e9
    have hlm : (ln, listOf (tv nps).toArray (tv nps).length) ∈ (td, o) :: (L' + 1, oc) :: (ex ++ ((ln, listOf (tv nps).toArray (tv nps).length) :: (I, oI) :: news)) := .tail _ (.tail _ (List.mem_append.mpr (.inr (.head _))))
    have hnl : (tv nps).length = nps.length := tv_length _
    refine For_invVF F5 rfl rfl ?_
    k_steps
    unfold Hold
    rename Fr _ _ _ _ => F6
    rename News _ _ _ _ => N7
    rename ∀ p ∈ (I, oI) :: (td, o) :: _, _ => offn
    have hc9 : ((nps.length : Nat) : Int) + 1 = ((nps.length + 1 : Nat) : Int) := by omega
    have hns : nps.map (·.1) = nsOf n := hps
    refine iter_rangeL (n := nps.length + 1) (a₀ := 0) (σ := DuS) (fun c => (td, c.o) :: (L' + 1, oc) :: (c.ex ++ ((ln, listOf (tv nps).toArray (tv nps).length) :: (I, oI) :: news))) (fun _ => []) [Str.ofString "text", Str.ofString "kinds"]
      (fun j c => Obj.IsDictOf (PySem.strKind Challenge.rw_pd0144_01.row.prog w) c.o (rowsKvs c.rows) ∧ RowsIn c.ex c.rows ∧ (∀ p ∈ c.ex, p.1 ≠ td ∧ p.1 ≠ L' + 1 ∧ p.1 ≠ I) ∧ rowsD c.rows = stepD (nsOf n) (n.fmod 3) (rowsD rows) j ∧ c.rows.length ≤ rows.length + j ∧ (∀ r ∈ c.rows, r.2.2.length ≤ 10 * i + j)) ⟨o, rows, ex⟩ rfl (by assumption) (by rw [hc9]; exact (range_small (by omega)).1) (by rw [hc9]; exact (range_small (by omega)).2) F6 N7 (fun _ hp => nomatch hp) ⟨hd, hri, fun p hp => ⟨(hex p hp).1, (hex p hp).2, hoff p (.tail _ (.tail _ (List.mem_append.mpr (.inl hp))))⟩, rfl, Nat.le_refl _, hks⟩ ?_ ?_
    · rintro j t ⟨o', rows', ex'⟩ u9 h9 tk9 I9 oI9 hj ⟨hd', hri', hex', hD', hlen', hks'⟩ hoff' F7 N8
      replace hd' : Obj.IsDictOf (PySem.strKind Challenge.rw_pd0144_01.row.prog w) o' (rowsKvs rows') := hd'
      replace hri' : RowsIn ex' rows' := hri'
      replace hex' : ∀ p ∈ ex', p.1 ≠ td ∧ p.1 ≠ L' + 1 ∧ p.1 ≠ I := hex'
      replace hD' : rowsD rows' = stepD (nsOf n) (n.fmod 3) (rowsD rows) j := hD'
      replace hlen' : rows'.length ≤ rows.length + j := hlen'
      replace hks' : ∀ r ∈ rows', r.2.2.length ≤ 10 * i + j := hks'
      rw [Int.zero_add] at F7
      dsimp only [kstB] at F7 N8
      (try dsimp only)
      clear F6 N7
      refine gen_Q fun Q1 hQ1 => ?_
      k_steps
      unfold Hold
      rename Fr _ _ _ _ => F8
      rename News _ _ _ _ => N9
      have hlm' : (ln, listOf (tv nps).toArray (tv nps).length) ∈ (I9, oI9) :: (td, o') :: (L' + 1, oc) :: (ex' ++ ((ln, listOf (tv nps).toArray (tv nps).length) :: (I, oI) :: news)) := .tail _ (.tail _ (.tail _ (List.mem_append.mpr (.inr (.head _)))))
      k_dflt (refine kms_slice_lit (its := (tv nps).toArray) (lo := none) (hi := some ((j : Nat) : Int)) (zs := tv (nps.take j)) F8 N9 ⟨_, (N9 _ hlm').1, rfl, _, rfl⟩ (by kmk_part) (by kmk_part) (cm_pick nps j) ?_ (by with_unfolding_all rfl) (by kmk_pure) ?z)
      case z => rw [List.size_toArray, tv_length]; exact Nat.le_trans hpl (by decide)
      intro D' h' F' N' l1'
      clear F8 N9
      k_steps
      unfold Hold
      rename Fr _ _ _ _ => F10
      rename News _ _ _ _ => N10
      have htl : ((nsOf n).take j).length ≤ 5 := by rw [List.length_take, ← hns, List.length_map]; omega
      have hts : (((nsOf n).take j).map (·.length)).sum ≤ 1000 * ((nsOf n).take j).length := sum_len_le _ fun a ha => by
        have ha' := List.mem_of_mem_take ha
        rw [← hns] at ha'
        obtain ⟨p, hp, rfl⟩ := List.mem_map.mp ha'
        exact Nat.le_trans (hpn p hp) (by decide)
      k_dflt (refine SC.join (x := Str.ofString "/") (D := D') (l := nps.take j) (texts := (nsOf n).take j) ⟨_, (N10 _ (.head _)).1, rfl, _, rfl⟩ (by rw [List.map_take, hns]) (joinOk_of_weight (by omega) (by decide)) ?_)
      intro tj kj
      have hjl : (Txt.join (Str.ofString "/") ((nsOf n).take j)).length ≤ 20000 := by
        have h9 := StrLaws.join_length_le (Str.ofString "/") ((nsOf n).take j)
        rw [← StrLaws.glued_eq_join, show (Str.ofString "/").length = 1 from rfl] at h9
        unfold Txt.join
        omega
      k_steps
      unfold Hold
      rename Fr _ _ _ _ => F11
      rename News _ _ _ _ => N11
      have hofft : ∀ p ∈ (I9, oI9) :: (L' + 1, oc) :: (ex' ++ ((ln, listOf (tv nps).toArray (tv nps).length) :: (I, oI) :: news)), p.1 ≠ td := fun p hp => by
        rcases List.mem_cons.mp hp with rfl | hp
        · exact Ne.symm (hoff' _ (.head _))
        rcases List.mem_cons.mp hp with rfl | hp
        · exact hct
        rcases List.mem_append.mp hp with hp | hp
        · exact (hex' p hp).1
        rcases List.mem_cons.mp hp with rfl | hp
        · exact Ne.symm (offn (td, o) (.tail _ (.head _)))
        rcases List.mem_cons.mp hp with rfl | hp
        · exact Ne.symm (hoff _ (.head _))
        · exact hnt p hp
      cases hfd : rows'.find? (fun r => decide (r.1 = textF (nsOf n) j)) with
      | none =>
        k_dflt (refine kdg_get2 (k := textF (nsOf n) j) (kvs := rowsKvs rows') N11 (.tail _ (.tail _ (.tail _ (.head _)))) hd' hsm (strKind_is _ _ _ _) none (by rw [value_rows, hfd]; rfl) ?_)
        dsimp only [Option.getD_none]
        k_steps
        unfold Hold
        rename News _ _ _ _ => N12
        k_dflt (refine notin_led (ks := []) (n := 0) N12 (.head _) ?_)
        rw [show (!((([] : List (Int × Tok)).map (·.1)).contains (n.fmod 3))) = true from rfl]
        k_steps
        unfold Hold
        rename Fr _ _ _ _ => F13
        rename News _ _ _ _ => N13
        k_dflt (refine add_listsL (vs := []) F13 N13 (.tail _ (.head _)) (.head _) (by show 1 ≤ sizeLine; decide) ?_)
        intro D9 h10 F14 N14 l14
        clear F13 N13
        k_steps
        unfold Hold
        rename Fr _ _ _ _ => F15
        rename News _ _ _ _ => N15
        have hD9 : td ≠ D9 := Nat.ne_of_lt (l14 (td, o') (by simp))
        obtain ⟨t9, N16⟩ : ∃ t9, News _ _ _ ((td, o') :: (D9, listOf (iv [(n.fmod 3, t9)]).toArray 0) :: (I9, oI9) :: (L' + 1, oc) :: (ex' ++ ((ln, listOf (tv nps).toArray (tv nps).length) :: (I, oI) :: news))) := ⟨_, fun p hp => N15 p (by
          rcases List.mem_cons.mp hp with rfl | hp
          · exact .tail _ (.tail _ (.tail _ (.tail _ (.tail _ (.head _)))))
          rcases List.mem_cons.mp hp with rfl | hp
          · exact .head _
          rcases List.mem_cons.mp hp with rfl | hp
          · exact .tail _ (.tail _ (.tail _ (.tail _ (.head _))))
          · exact .tail _ (.tail _ (.tail _ (.tail _ (.tail _ (.tail _ hp))))))⟩
        clear N15
        k_dflt (refine kda_set (k := textF (nsOf n) j) (kvs := rowsKvs rows') F15 N16 (.head fun p hp => ?offd) hd' (strKind_is _ _ _ _) ?szd ?_)
        case offd =>
          rcases List.mem_cons.mp hp with rfl | hp
          · exact Ne.symm hD9
          · exact hofft p hp
        case szd => unfold rowsKvs; rw [List.length_map]; exact Nat.le_trans (Nat.le_trans hlen' (by omega : rows.length + j ≤ 100)) (by decide)
        intro h16 o16 F17 N17 hd17
        rw [(add_none (k := n.fmod 3) hfd D9 t9).1] at hd17
        clear F15 N16
        have hD9I : D9 ≠ I9 := Ne.symm (Nat.ne_of_lt (l14 (I9, oI9) (by simp)))
        have hD9c : D9 ≠ L' + 1 := Ne.symm (Nat.ne_of_lt (l14 (L' + 1, oc) (by simp)))
        have hD9o : D9 ≠ I := Ne.symm (Nat.ne_of_lt (l14 (I, oI) (by simp)))
        k_steps
        subst hQ1
        refine turn_end ⟨o16, rows' ++ [(textF (nsOf n) j, D9, [(n.fmod 3, t9)])], (D9, listOf (iv [(n.fmod 3, t9)]).toArray 0) :: ex'⟩ (by assumption) (by assumption) (fun p hp => ?_) (fun p hp => ?_) (fun _ hp => nomatch hp) (by walk_at "mine_same") ⟨hd17, ?_, ?_, ?_, ?_, ?_⟩
        · simp only [List.mem_cons, List.mem_append, List.cons_append] at hp ⊢
          rcases hp with h | h | h | h | h | h | h | h <;> simp [h]
        · simp only [List.cons_append] at hp
          rcases List.mem_cons.mp hp with rfl | hp
          · exact (show td ≠ I9 from hoff' (td, o') (.head _))
          rcases List.mem_cons.mp hp with rfl | hp
          · exact hoff' _ (.tail _ (.head _))
          rcases List.mem_cons.mp hp with rfl | hp
          · exact hD9I
          · exact hoff' p (.tail _ (.tail _ hp))
        · intro r hr
          rcases List.mem_append.mp hr with hr | hr
          · exact hri'.mono (fun p hp => .tail _ hp) r hr
          · rw [List.mem_singleton.mp hr]; exact ⟨0, .head _⟩
        · intro p hp
          rcases List.mem_cons.mp hp with rfl | hp
          · exact ⟨Ne.symm hD9, hD9c, hD9o⟩
          · exact hex' p hp
        · dsimp only
          rw [(add_none (k := n.fmod 3) hfd D9 t9).2, hD', stepD_succ]
        · dsimp only; rw [List.length_append]; simp only [List.length_cons, List.length_nil]; omega
        · intro r hr
          rcases List.mem_append.mp hr with hr | hr
          · exact Nat.le_trans (hks' r hr) (by omega)
          · rw [List.mem_singleton.mp hr]; simp only [List.length_cons, List.length_nil]; omega
      | some r =>
        obtain ⟨rx, ra, rks⟩ := r
        have hrr := List.mem_of_find?_eq_some hfd
        obtain ⟨nr, hrm⟩ := hri' _ hrr
        dsimp only at hrm
        have hrl : rks.length ≤ 10 * i + j := hks' _ hrr
        k_dflt (refine kdg_get2 (k := textF (nsOf n) j) (kvs := rowsKvs rows') N11 (.tail _ (.tail _ (.tail _ (.head _)))) hd' hsm (strKind_is _ _ _ _) (some (.ref ra)) (by rw [value_rows, hfd]; rfl) ?_)
        dsimp only [Option.getD_some]
        k_steps
        unfold Hold
        rename Fr _ _ _ _ => F12
        rename News _ _ _ _ => N12
        k_dflt (refine notin_led (ks := rks) (n := nr) N12 (.tail _ (.tail _ (.tail _ (.tail _ (.tail _ (List.mem_append.mpr (.inl hrm))))))) ?_)
        cases hck : (rks.map (·.1)).contains (n.fmod 3) with
        | true =>
          simp only [Bool.not_true]
          k_steps
          subst hQ1
          refine turn_end ⟨o', rows', ex'⟩ (by assumption) (by assumption) (fun p hp => ?_) hoff' (fun _ hp => nomatch hp) (by walk_at "mine_same") ⟨hd', hri', hex', ?_, Nat.le_trans hlen' (by omega), fun r hr => Nat.le_trans (hks' r hr) (by omega)⟩
          · simp only [List.mem_cons, List.mem_append] at hp ⊢
            rcases hp with h | h | h | h | h | h | h <;> simp [h]
          · dsimp only
            rw [stepD_succ, ← hD']; exact add_old hfd hck
        | false =>
          simp only [Bool.not_false]
          k_steps
          unfold Hold
          rename Fr _ _ _ _ => F13
          rename News _ _ _ _ => N13
          k_dflt (refine add_listsL (vs := iv rks) F13 N13 (.tail _ (.tail _ (.tail _ (.tail _ (.tail _ (.tail _ (List.mem_append.mpr (.inl hrm)))))))) (.head _) (by rw [iv_length]; show rks.length + 1 ≤ sizeLine; exact Nat.le_trans (by omega : rks.length + 1 ≤ 1000) (by decide)) ?_)
          intro D9 h10 F14 N14 l14
          rw [iv_snoc9] at N14
          clear F13 N13
          k_steps
          unfold Hold
          rename Fr _ _ _ _ => F15
          rename News _ _ _ _ => N15
          have hD9 : td ≠ D9 := Nat.ne_of_lt (l14 (td, o') (by simp))
          obtain ⟨t9, N16⟩ : ∃ t9, News _ _ _ ((td, o') :: (D9, listOf (iv (rks ++ [(n.fmod 3, t9)])).toArray 0) :: (I9, oI9) :: (L' + 1, oc) :: (ex' ++ ((ln, listOf (tv nps).toArray (tv nps).length) :: (I, oI) :: news))) := ⟨_, fun p hp => N15 p (by
            rcases List.mem_cons.mp hp with rfl | hp
            · exact .tail _ (.tail _ (.tail _ (.tail _ (.tail _ (.head _)))))
            rcases List.mem_cons.mp hp with rfl | hp
            · exact .head _
            rcases List.mem_cons.mp hp with rfl | hp
            · exact .tail _ (.tail _ (.tail _ (.tail _ (.head _))))
            · exact .tail _ (.tail _ (.tail _ (.tail _ (.tail _ (.tail _ hp))))))⟩
          clear N15
          k_dflt (refine kda_set (k := textF (nsOf n) j) (kvs := rowsKvs rows') F15 N16 (.head fun p hp => ?offd) hd' (strKind_is _ _ _ _) ?szd ?_)
          case offd =>
            rcases List.mem_cons.mp hp with rfl | hp
            · exact Ne.symm hD9
            · exact hofft p hp
          case szd => unfold rowsKvs; rw [List.length_map]; exact Nat.le_trans (Nat.le_trans hlen' (by omega : rows.length + j ≤ 100)) (by decide)
          intro h16 o16 F17 N17 hd17
          rw [(add_more (k := n.fmod 3) hfd hck D9 t9).1] at hd17
          clear F15 N16
          have hD9I : D9 ≠ I9 := Ne.symm (Nat.ne_of_lt (l14 (I9, oI9) (by simp)))
          have hD9c : D9 ≠ L' + 1 := Ne.symm (Nat.ne_of_lt (l14 (L' + 1, oc) (by simp)))
          have hD9o : D9 ≠ I := Ne.symm (Nat.ne_of_lt (l14 (I, oI) (by simp)))
          k_steps
          subst hQ1
          refine turn_end ⟨o16, rows'.map fun q => if q.1 = textF (nsOf n) j then (q.1, D9, rks ++ [(n.fmod 3, t9)]) else q, (D9, listOf (iv (rks ++ [(n.fmod 3, t9)])).toArray 0) :: ex'⟩ (by assumption) (by assumption) (fun p hp => ?_) (fun p hp => ?_) (fun _ hp => nomatch hp) (by walk_at "mine_same") ⟨hd17, ?_, ?_, ?_, ?_, ?_⟩
          · simp only [List.mem_cons, List.mem_append, List.cons_append] at hp ⊢
            rcases hp with h | h | h | h | h | h | h | h <;> simp [h]
          · simp only [List.cons_append] at hp
            rcases List.mem_cons.mp hp with rfl | hp
            · exact (show td ≠ I9 from hoff' (td, o') (.head _))
            rcases List.mem_cons.mp hp with rfl | hp
            · exact hoff' _ (.tail _ (.head _))
            rcases List.mem_cons.mp hp with rfl | hp
            · exact hD9I
            · exact hoff' p (.tail _ (.tail _ hp))
          · intro r hr
            obtain ⟨q, hq9, rfl⟩ := List.mem_map.mp hr
            split
            · exact ⟨0, .head _⟩
            · exact hri'.mono (fun p hp => .tail _ hp) q hq9
          · intro p hp
            rcases List.mem_cons.mp hp with rfl | hp
            · exact ⟨Ne.symm hD9, hD9c, hD9o⟩
            · exact hex' p hp
          · dsimp only
            rw [(add_more (k := n.fmod 3) hfd hck D9 t9).2, hD', stepD_succ]
          · dsimp only; rw [List.length_map]; omega
          · intro r hr
            obtain ⟨q, hq9, rfl⟩ := List.mem_map.mp hr
            split
            · rw [List.length_append]; simp only [List.length_cons, List.length_nil]; omega
            · exact Nat.le_trans (hks' q hq9) (by omega)
    · rintro ⟨o', rows', ex'⟩ u9 h9 tk9 ⟨hd', hri', hex', hD', hlen', hks'⟩ F7 N8
      replace hd' : Obj.IsDictOf (PySem.strKind Challenge.rw_pd0144_01.row.prog w) o' (rowsKvs rows') := hd'
      replace hri' : RowsIn ex' rows' := hri'
      replace hex' : ∀ p ∈ ex', p.1 ≠ td ∧ p.1 ≠ L' + 1 ∧ p.1 ≠ I := hex'
      replace hD' : rowsD rows' = stepD (nsOf n) (n.fmod 3) (rowsD rows) (nps.length + 1) := hD'
      replace hlen' : rows'.length ≤ rows.length + (nps.length + 1) := hlen'
      replace hks' : ∀ r ∈ rows', r.2.2.length ≤ 10 * i + (nps.length + 1) := hks'
      dsimp only [kstB] at F7 N8
      (try dsimp only)
      clear F6 N7
      k_steps
      subst hQ2
      refine turn_end ⟨o', rows', ex'⟩ (by assumption) (by assumption) (fun p hp => ?_) (fun p hp => ?_) (fun _ hp => nomatch hp) (by walk_at "mine_same") ⟨hd', hri', fun p hp => ⟨(hex' p hp).1, (hex' p hp).2.1⟩, ?_, ?_, fun r hr => ?_⟩
      · simp only [List.mem_cons, List.mem_append] at hp ⊢
        rcases hp with h | h | h | h | h <;> simp [h]
      · rcases List.mem_cons.mp hp with rfl | hp
        · exact (show td ≠ I from hoff (td, o) (.head _))
        rcases List.mem_cons.mp hp with rfl | hp
        · exact hoff _ (.tail _ (.head _))
        rcases List.mem_append.mp hp with hp | hp
        · exact (hex' p hp).2.2
        · exact hoff p (.tail _ (.tail _ (List.mem_append.mpr (.inr hp))))
      · dsimp only
        rw [take_snoc hq, List.map_append, hD', hD]
        show _ = dueD (_ ++ [n])
        rw [dueD_snoc, ← hns, List.length_map]
      · dsimp only; omega
      · exact Nat.le_trans (hks' r hr) (by omega)
  · rintro ⟨o, rows, ex⟩ u' h2 tk2 ⟨hd, hri, hex, hD, hlen, hks⟩ F2 N3
    replace hd : Obj.IsDictOf (PySem.strKind Challenge.rw_pd0144_01.row.prog w) o (rowsKvs rows) := hd
    replace hri : RowsIn ex rows := hri
    replace hex : ∀ p ∈ ex, p.1 ≠ td ∧ p.1 ≠ L' + 1 := hex
    replace hD : rowsD rows = dueD ((ps.take (iv ps).length).map (·.1)) := hD
    replace hlen : rows.length ≤ 10 * (iv ps).length := hlen
    replace hks : ∀ r ∈ rows, r.2.2.length ≤ 10 * (iv ps).length := hks
    rw [iv_length] at hD hlen hks
    rw [List.take_length] at hD
    clear F1 N2
    dsimp only [kstB] at F2 N3
    (try dsimp only)
    k_steps
    unfold Hold
    rename Fr _ _ _ _ => F4
    rename News _ _ _ _ => N4
    have hdue := due_ok (ps.map (·.1))
    rw [List.length_map, hn] at hdue
    have hfl : rowsFlat rows = flatD (dueD (ps.map (·.1))) := by rw [rowsFlat_eq, hD]
    k_dflt (refine ListComp2 (F₀ := F4) (by with_unfolding_all rfl) (by decide) (by rfl) (by decide) (by rfl) (by rfl) (by decide) (by decide) ?_)
    walk1
    refine ⟨td, o, rows, _, rfl, rfl, hsm, F4, N4, .head _, hd, hri.mono fun p hp => .tail _ (.tail _ (List.mem_append.mpr (.inl hp))), by rw [hfl]; exact Nat.le_trans hdue.2 (by decide), ?_, ?_⟩
    · intro i r t I oI C oC D oD m₂ h tk E' hr hval hN hm F5 N5
      clear F4 N4
      k_steps
      unfold Hold
      rename Fr _ _ _ _ => F6
      rename News _ _ _ _ => N6
      k_dflt (refine kda_item (k := r.1) (kvs := rowsKvs rows) N6 (.tail _ (.tail _ (.tail _ (.head _)))) hd (strKind_is _ _ _ _) hval ?_ (by with_unfolding_all rfl) (by intro _; with_unfolding_all rfl))
      exact ⟨rfl, _, rfl⟩
    · intro D rs h tk hrs F5 N5 offD
      clear F4 N4
      k_steps
      unfold Hold
      rename Fr _ _ _ _ => F6
      rename News _ _ _ _ => N6
      have hrs64 : (tv rs).length < 64 := by
        have h9 := congrArg List.length hrs
        rw [List.length_map, hfl] at h9
        rw [tv_length]; omega
      k_dflt (refine sorted_N_str (vs := tv rs) (ss := rs.map (·.1)) F6 N6 ⟨_, (N6 _ (.head _)).1, rfl, _, rfl⟩ (strsAre_tv rs) hrs64 ?_)
      intro h7 vs' ss' e7 F7 N7 hS' hp' hs'
      obtain ⟨rs', rfl, rfl⟩ := tv_of_strs hS'
      rw [hrs, hfl] at hp'
      clear F6 N6
      k_steps
      subst hQ0
      (try dsimp only)
      k_steps
      exact hret _ rs' _ _ _ hp' hs' (by assumption) (cb_drop (by assumption) fun p hp => by
        rcases List.mem_cons.mp hp with rfl | hp
        · exact .head _
        · exact .tail _ (.tail _ (.tail _ (.tail _ (List.mem_append.mpr (.inr hp))))))
end
end
/- part S2 -/
theorem freshS2 : True := by
  w_top off
  trivial
section
set_option linter.unusedVariables false
section heap
variable {α : Type} (lt : α → α → Bool)
def SameL (A B : List α) : Prop := ∀ p : α → Bool, A.countP p = B.countP p
theorem SameL.rfl' {A : List α} : SameL A A := fun _ => rfl
theorem SameL.trans {A B C : List α} (h : SameL A B) (h' : SameL B C) : SameL A C := fun p => (h p).trans (h' p)
theorem countP_set {p : α → Bool} {x y : α} : ∀ {l : List α} {i : Nat}, l[i]? = some y → (l.set i x).countP p + (if p y = true then 1 else 0) = l.countP p + (if p x = true then 1 else 0)
  | [], i, h => by simp at h
  | a :: l, 0, h => by
    simp only [List.getElem?_cons_zero, Option.some.injEq] at h
    subst h
    simp only [List.set_cons_zero, List.countP_cons]
    omega
  | a :: l, i + 1, h => by
    simp only [List.getElem?_cons_succ] at h
    have := countP_set (p := p) (x := x) h
    simp only [List.set_cons_succ, List.countP_cons]
    omega
theorem swap_same {l : List α} {i j : Nat} {x a b : α} (hij : i ≠ j) (hi : l[i]? = some a) (hj : l[j]? = some b) : SameL ((l.set i b).set j x) (l.set i x) := fun p => by
  have hj' : (l.set i b)[j]? = some b := by rw [List.getElem?_set_ne hij]; exact hj
  have h1 := countP_set (p := p) (x := x) hj'
  have h2 := countP_set (p := p) (x := b) hi
  have h3 := countP_set (p := p) (x := x) hi
  omega
theorem gs {l : List α} {i j : Nat} {x a : α} (h : (l.set i x)[j]? = some a) : (j = i ∧ a = x) ∨ (j ≠ i ∧ l[j]? = some a) := by
  by_cases hij : i = j
  · subst hij
    have hl : i < l.length := by
      have := (List.getElem?_eq_some_iff.mp h).1
      rwa [List.length_set] at this
    rw [List.getElem?_set_self hl] at h
    cases h
    exact .inl ⟨rfl, rfl⟩
  · rw [List.getElem?_set_ne hij] at h
    exact .inr ⟨fun e => hij e.symm, h⟩
def IsHp (l : List α) : Prop := ∀ i a b, 0 < i → l[i]? = some a → l[(i - 1) / 2]? = some b → lt a b = false
structure OrdL : Prop where
  asym : ∀ a b, lt a b = true → lt b a = false
  trans : ∀ a b c, lt b a = false → lt c b = false → lt c a = false
variable {lt} (O : OrdL lt)
include O
theorem OrdL.irr (a : α) : lt a a = false := by
  cases h : lt a a with
  | false => rfl
  | true => rw [← h]; exact O.asym a a h
theorem sdF_heap : ∀ (k : Nat) (l : List α) (pos : Nat) (x : α), pos ≤ k → pos < l.length →
    (∀ i a b, 0 < i → i ≠ pos → (l.set pos x)[i]? = some a → (l.set pos x)[(i - 1) / 2]? = some b → lt a b = false) →
    (∀ i a b, 0 < pos → 0 < i → (i - 1) / 2 = pos → l[i]? = some a → l[(pos - 1) / 2]? = some b → lt a b = false) →
    IsHp lt (sdF lt k l pos x) ∧ SameL (sdF lt k l pos x) (l.set pos x)
  | 0, l, pos, x, hk, hp, h1, h2 => by
    refine ⟨fun i a b hi ha hb => h1 i a b hi (by omega) ha hb, SameL.rfl'⟩
  | k + 1, l, pos, x, hk, hp, h1, h2 => by
    rw [sdF_succ]
    by_cases h0 : 0 < pos
    · rw [if_pos h0]
      have hpp : (pos - 1) / 2 < l.length := by omega
      obtain ⟨b, hb⟩ : ∃ b, l[(pos - 1) / 2]? = some b := ⟨_, List.getElem?_eq_getElem hpp⟩
      have hg : l.getD ((pos - 1) / 2) x = b := by rw [List.getD_eq_getElem?_getD, hb]; rfl
      obtain ⟨c, hc⟩ : ∃ c, l[pos]? = some c := ⟨_, List.getElem?_eq_getElem hp⟩
      rw [hg]
      cases hlt : lt x b with
      | true =>
        rw [if_pos rfl]
        have key := sdF_heap k (l.set pos b) ((pos - 1) / 2) x (by omega) (by rw [List.length_set]; exact hpp) ?_ ?_
        · exact ⟨key.1, key.2.trans (swap_same (by omega) hc hb)⟩
        · intro i u v hi hne hu hv
          rcases gs hu with ⟨e, _⟩ | ⟨_, hu1⟩
          · exact absurd e hne
          rcases gs hu1 with ⟨e, rfl⟩ | ⟨hne2, hu2⟩
          · subst e
            rcases gs hv with ⟨_, rfl⟩ | ⟨h9, _⟩
            · exact O.asym _ _ hlt
            · exact absurd rfl h9
          · rcases gs hv with ⟨e, rfl⟩ | ⟨hne3, hv1⟩
            · have h5 := h1 i u b hi hne2 (by rw [List.getElem?_set_ne (Ne.symm hne2)]; exact hu2) (by rw [e, List.getElem?_set_ne (by omega)]; exact hb)
              exact O.trans _ _ _ (O.asym _ _ hlt) h5
            · rcases gs hv1 with ⟨e, rfl⟩ | ⟨hne4, hv2⟩
              · exact h2 i u _ h0 hi e hu2 hb
              · exact h1 i u v hi hne2 (by rw [List.getElem?_set_ne (Ne.symm hne2)]; exact hu2) (by rw [List.getElem?_set_ne (Ne.symm hne4)]; exact hv2)
        · intro i u v hq hi hpar hu hv
          rcases gs hv with ⟨e, _⟩ | ⟨_, hv⟩
          · omega
          have h6 : lt b v = false := h1 ((pos - 1) / 2) b v hq (by omega) (by rw [List.getElem?_set_ne (by omega)]; exact hb) (by rw [List.getElem?_set_ne (by omega)]; exact hv)
          rcases gs hu with ⟨e, rfl⟩ | ⟨hne, hu⟩
          · exact h6
          · have h7 := h1 i u b hi hne (by rw [List.getElem?_set_ne (Ne.symm hne)]; exact hu) (by rw [hpar, List.getElem?_set_ne (by omega)]; exact hb)
            exact O.trans _ _ _ h6 h7
      | false =>
        rw [if_neg Bool.false_ne_true]
        refine ⟨fun i u v hi hu hv => ?_, SameL.rfl'⟩
        by_cases hip : i = pos
        · subst hip
          rcases gs hu with ⟨_, rfl⟩ | ⟨h9, _⟩
          · rcases gs hv with ⟨e, _⟩ | ⟨_, hv⟩
            · omega
            · rw [hb] at hv; cases hv; exact hlt
          · exact absurd rfl h9
        · exact h1 i u v hi hip hu hv
    · rw [if_neg h0]
      exact ⟨fun i a b hi ha hb => h1 i a b hi (by omega) ha hb, SameL.rfl'⟩
theorem suL_heap (d : α) : ∀ (k : Nat) (l : List α) (pos : Nat), l.length ≤ pos + k → pos < l.length →
    (∀ i a b, 0 < i → i ≠ pos → (i - 1) / 2 ≠ pos → l[i]? = some a → l[(i - 1) / 2]? = some b → lt a b = false) →
    (∀ i a b, 0 < pos → 0 < i → (i - 1) / 2 = pos → l[i]? = some a → l[(pos - 1) / 2]? = some b → lt a b = false) →
    (suL lt d k l pos).2 < l.length ∧ l.length ≤ 2 * (suL lt d k l pos).2 + 1 ∧
    (∀ i a b, 0 < i → i ≠ (suL lt d k l pos).2 → (i - 1) / 2 ≠ (suL lt d k l pos).2 → (suL lt d k l pos).1[i]? = some a → (suL lt d k l pos).1[(i - 1) / 2]? = some b → lt a b = false) ∧
    (∀ x, SameL ((suL lt d k l pos).1.set (suL lt d k l pos).2 x) (l.set pos x))
  | 0, l, pos, hk, hp, h1, h2 => by omega
  | k + 1, l, pos, hk, hp, h1, h2 => by
    rw [suL_succ]
    by_cases hc : 2 * pos + 1 < l.length
    · rw [if_pos hc]
      obtain ⟨p, hp0⟩ : ∃ b, l[pos]? = some b := ⟨_, List.getElem?_eq_getElem hp⟩
      obtain ⟨c, hc1⟩ : ∃ b, l[2 * pos + 1]? = some b := ⟨_, List.getElem?_eq_getElem hc⟩
      have hgc : l.getD (2 * pos + 1) d = c := by rw [List.getD_eq_getElem?_getD, hc1]; rfl
      have go : ∀ (j : Nat) (e : α), (j = 2 * pos + 1 ∨ j = 2 * pos + 2) → l[j]? = some e → (∀ i a, (i = 2 * pos + 1 ∨ i = 2 * pos + 2) → l[i]? = some a → lt a e = false) →
          (suL lt d k (l.set pos e) j).2 < l.length ∧ l.length ≤ 2 * (suL lt d k (l.set pos e) j).2 + 1 ∧
          (∀ i a b, 0 < i → i ≠ (suL lt d k (l.set pos e) j).2 → (i - 1) / 2 ≠ (suL lt d k (l.set pos e) j).2 → (suL lt d k (l.set pos e) j).1[i]? = some a → (suL lt d k (l.set pos e) j).1[(i - 1) / 2]? = some b → lt a b = false) ∧
          (∀ x, SameL ((suL lt d k (l.set pos e) j).1.set (suL lt d k (l.set pos e) j).2 x) (l.set pos x)) := by
        intro j e hj he hmin
        have hjl : j < l.length := (List.getElem?_eq_some_iff.mp he).1
        have key := suL_heap d k (l.set pos e) j (by rw [List.length_set]; omega) (by rw [List.length_set]; exact hjl) ?_ ?_
        · rw [List.length_set] at key
          exact ⟨key.1, key.2.1, key.2.2.1, fun x => (key.2.2.2 x).trans (swap_same (by omega) hp0 he)⟩
        · intro i a b hi hne hpar ha hb
          rcases gs ha with ⟨e1, rfl⟩ | ⟨hne1, ha1⟩
          · subst e1
            rcases gs hb with ⟨e2, _⟩ | ⟨_, hb⟩
            · omega
            · exact h2 j a b (by omega) (by omega) (by omega) he hb
          · rcases gs hb with ⟨e2, rfl⟩ | ⟨hne2, hb1⟩
            · exact hmin i a (by omega) ha1
            · exact h1 i a b hi hne1 hne2 ha1 hb1
        · intro i a b hj0 hi hpar ha hb
          have e9 : (j - 1) / 2 = pos := by omega
          rcases gs hb with ⟨_, rfl⟩ | ⟨h9, _⟩
          · rcases gs ha with ⟨e1, _⟩ | ⟨hne1, ha⟩
            · omega
            · exact h1 i a _ hi hne1 (by omega) ha (by rw [hpar]; exact he)
          · exact absurd e9 h9
      by_cases hr : 2 * pos + 2 < l.length
      · obtain ⟨r, hr1⟩ : ∃ b, l[2 * pos + 2]? = some b := ⟨_, List.getElem?_eq_getElem hr⟩
        have hgr : l.getD (2 * pos + 2) d = r := by rw [List.getD_eq_getElem?_getD, hr1]; rfl
        rw [hgc, hgr]
        cases hlt : lt c r with
        | false =>
          rw [if_pos ⟨hr, rfl⟩]
          refine go _ r (.inr rfl) hr1 fun i a hi ha => ?_
          rcases hi with rfl | rfl
          · rw [hc1] at ha; cases ha; exact hlt
          · rw [hr1] at ha; cases ha; exact O.irr _
        | true =>
          rw [if_neg (by rintro ⟨_, h9⟩; cases h9)]
          refine go _ c (.inl rfl) hc1 fun i a hi ha => ?_
          rcases hi with rfl | rfl
          · rw [hc1] at ha; cases ha; exact O.irr _
          · rw [hr1] at ha; cases ha; exact O.asym _ _ hlt
      · rw [if_neg (by omega), hgc]
        refine go _ c (.inl rfl) hc1 fun i a hi ha => ?_
        rcases hi with rfl | rfl
        · rw [hc1] at ha; cases ha; exact O.irr _
        · have := (List.getElem?_eq_some_iff.mp ha).1; omega
    · rw [if_neg hc]
      exact ⟨hp, by dsimp only; omega, h1, fun x => SameL.rfl'⟩
theorem suF_heap {y : α} {r : List α} (h : ∀ i a b, 0 < i → (i - 1) / 2 ≠ 0 → (y :: r)[i]? = some a → (y :: r)[(i - 1) / 2]? = some b → lt a b = false) :
    IsHp lt (suF lt (y :: r) y) ∧ SameL (suF lt (y :: r) y) (y :: r) := by
  have key := suL_heap O y (y :: r).length (y :: r) 0 (by omega) (by simp) (fun i a b hi _ => h i a b hi) (fun i a b h0 => absurd h0 (by omega))
  have hl := suL_length lt y (y :: r).length (y :: r) 0
  unfold suF
  generalize suL lt y (y :: r).length (y :: r) 0 = z at key hl ⊢
  obtain ⟨l', q⟩ := z
  dsimp only at key hl ⊢
  obtain ⟨k1, k2, k3, k4⟩ := key
  have k5 := sdF_heap O q (l'.set q y) q y (Nat.le_refl _) (by rw [List.length_set, hl]; exact k1) ?_ ?_
  · refine ⟨k5.1, (k5.2.trans ?_).trans (k4 y)⟩
    rw [List.set_set]; exact SameL.rfl'
  · intro i a b hi hne ha hb
    rw [List.set_set] at ha hb
    rcases gs ha with ⟨e, _⟩ | ⟨_, ha⟩
    · exact absurd e hne
    have hil : i < l'.length := (List.getElem?_eq_some_iff.mp ha).1
    rcases gs hb with ⟨e, _⟩ | ⟨hq, hb⟩
    · omega
    exact k3 i a b hi hne hq ha hb
  · intro i a b h0 hi hpar ha hb
    have hil := (List.getElem?_eq_some_iff.mp ha).1
    rw [List.length_set] at hil
    omega
theorem root_le {l : List α} {z : α} (H : IsHp lt l) (hz : l[0]? = some z) : ∀ (n i : Nat) (a : α), i ≤ n → l[i]? = some a → lt a z = false
  | _, 0, a, _, ha => by rw [hz] at ha; cases ha; exact O.irr _
  | 0, i + 1, a, hn, ha => by omega
  | n + 1, i + 1, a, hn, ha => by
    have hil := (List.getElem?_eq_some_iff.mp ha).1
    obtain ⟨b, hb⟩ : ∃ b, l[(i + 1 - 1) / 2]? = some b := ⟨_, List.getElem?_eq_getElem (by omega)⟩
    exact O.trans _ _ _ (root_le H hz n ((i + 1 - 1) / 2) b (by omega) hb) (H (i + 1) a b (by omega) ha hb)
theorem popF_heap {init : List α} {y : α} (H : IsHp lt (init ++ [y])) : IsHp lt (popF lt init y).1 ∧ SameL ((popF lt init y).2 :: (popF lt init y).1) (init ++ [y]) ∧ (∀ a ∈ init ++ [y], lt a (popF lt init y).2 = false) := by
  cases init with
  | nil =>
    refine ⟨fun i a b hi ha => by simp [popF] at ha, fun p => rfl, fun a ha => ?_⟩
    rw [List.mem_singleton.mp ha]; exact O.irr _
  | cons z r =>
    have h1 := suF_heap O (y := y) (r := r) ?_
    · refine ⟨h1.1, fun p => ?_, fun a ha => ?_⟩
      · have := h1.2 p
        simp only [popF, List.countP_cons, List.countP_append, List.cons_append, List.countP_nil] at this ⊢
        omega
      · obtain ⟨i, hi⟩ := List.mem_iff_getElem?.mp ha
        exact root_le O H rfl i i a (Nat.le_refl _) hi
    · intro i a b hi hpar ha hb
      have e : ∀ j c, 0 < j → (y :: r)[j]? = some c → (z :: r ++ [y])[j]? = some c := by
        intro j c hj hc
        obtain ⟨j, rfl⟩ : ∃ k, j = k + 1 := ⟨j - 1, by omega⟩
        simp only [List.getElem?_cons_succ] at hc
        have hjl := (List.getElem?_eq_some_iff.mp hc).1
        simp only [List.cons_append, List.getElem?_cons_succ]
        rw [List.getElem?_append_left hjl]; exact hc
      exact H i a b hi (e i a hi ha) (e _ b (by omega) hb)
theorem push_heap {l : List α} {x : α} (H : IsHp lt l) : IsHp lt (sdF lt l.length (l ++ [x]) l.length x) ∧ SameL (sdF lt l.length (l ++ [x]) l.length x) (l ++ [x]) := by
  have e : (l ++ [x]).set l.length x = l ++ [x] := by
    rw [List.set_append_right _ _ (Nat.le_refl _), Nat.sub_self]; rfl
  have key := sdF_heap O l.length (l ++ [x]) l.length x (Nat.le_refl _) (by simp) ?_ ?_
  · rw [e] at key; exact key
  · rw [e]
    intro i a b hi hne ha hb
    have hil := (List.getElem?_eq_some_iff.mp ha).1
    rw [List.length_append] at hil
    have hil' : i < l.length := by simp only [List.length_cons, List.length_nil] at hil; omega
    rw [List.getElem?_append_left hil'] at ha
    rw [List.getElem?_append_left (by omega)] at hb
    exact H i a b hi ha hb
  · intro i a b h0 hi hpar ha hb
    have hil := (List.getElem?_eq_some_iff.mp ha).1
    rw [List.length_append] at hil
    simp only [List.length_cons, List.length_nil] at hil
    omega
end heap
end
/- part P1 -/
theorem freshP1 : True := by
  w_top off
  trivial
section
set_option Elab.async false
set_option maxRecDepth 100000
set_option maxHeartbeats 8000000
set_option linter.unusedVariables false
structure Tot {α : Type} (lt : α → α → Bool) : Prop where
  asym : ∀ a b, lt a b = true → lt b a = false
  trans : ∀ a b c, lt b a = false → lt c b = false → lt c a = false
  anti : ∀ a b, lt a b = false → lt b a = false → a = b
theorem Tot.irr {α : Type} {lt : α → α → Bool} (T : Tot lt) (a : α) : lt a a = false := by
  cases h : lt a a with
  | false => rfl
  | true => rw [← h]; exact T.asym a a h
theorem cps_eq {a b : Str} (h : a.cps.toList = b.cps.toList) : a = b := by
  have h2 := Array.toList_inj.mp h
  cases a; cases b
  exact congrArg _ h2
theorem ltS_tot : Tot ltS where
  asym := fun _ _ h => ltS_asym h
  trans := fun a b c h1 h2 => by
    unfold ltS at *
    rw [decide_eq_false_iff_not, List.not_lt] at *
    exact List.le_trans h1 h2
  anti := fun a b h1 h2 => by
    unfold ltS at *
    rw [decide_eq_false_iff_not, List.not_lt] at *
    exact cps_eq (List.le_antisymm h2 h1)
theorem ltL_trans : ∀ (a b c : List Str), ltL b a = false → ltL c b = false → ltL c a = false
  | [], _, [], _, _ => rfl
  | [], _, _ :: _, _, _ => rfl
  | x :: xs, [], _, h, _ => by simp [ltL] at h
  | x :: xs, y :: ys, [], _, h => by simp [ltL] at h
  | x :: xs, y :: ys, z :: zs, h1, h2 => by
    unfold ltL at h1 h2 ⊢
    by_cases e1 : y = x
    · subst e1
      rw [if_pos (beq_self_eq_true y)] at h1
      by_cases e2 : z = y
      · subst e2
        rw [if_pos (beq_self_eq_true z)] at h2 ⊢
        exact ltL_trans xs ys zs h1 h2
      · rw [if_neg (by rwa [beq_iff_eq])] at h2 ⊢
        exact h2
    · rw [if_neg (by rwa [beq_iff_eq])] at h1
      by_cases e2 : z = y
      · subst e2
        rw [if_neg (by rwa [beq_iff_eq])]
        exact h1
      · rw [if_neg (by rwa [beq_iff_eq])] at h2
        by_cases e3 : z = x
        · subst e3
          exact absurd (ltS_tot.anti _ _ h1 h2) e1
        · rw [if_neg (by rwa [beq_iff_eq])]
          exact ltS_tot.trans _ _ _ h1 h2
theorem ltL_anti : ∀ (a b : List Str), ltL a b = false → ltL b a = false → a = b
  | [], [], _, _ => rfl
  | [], _ :: _, h, _ => by simp [ltL] at h
  | _ :: _, [], _, h => by simp [ltL] at h
  | x :: xs, y :: ys, h1, h2 => by
    unfold ltL at h1 h2
    by_cases e : x = y
    · subst e
      rw [if_pos (beq_self_eq_true x)] at h1 h2
      rw [ltL_anti xs ys h1 h2]
    · rw [if_neg (by rwa [beq_iff_eq])] at h1
      rw [if_neg (by rw [beq_iff_eq]; exact fun h => e h.symm)] at h2
      exact absurd (ltS_tot.anti _ _ h1 h2) e
theorem ltL_tot : Tot ltL := ⟨ltL_asym, ltL_trans, ltL_anti⟩
def lexP {α β : Type} [BEq α] (l1 : α → α → Bool) (l2 : β → β → Bool) (a b : α × β) : Bool := if (a.1 == b.1) = true then l2 a.2 b.2 else l1 a.1 b.1
theorem lex_tot {α β : Type} [BEq α] [LawfulBEq α] {l1 : α → α → Bool} {l2 : β → β → Bool} (T1 : Tot l1) (T2 : Tot l2) : Tot (lexP l1 l2) where
  asym := fun a b h => by
    unfold lexP at h ⊢
    by_cases e : a.1 = b.1
    · rw [if_pos (by rw [e]; exact beq_self_eq_true _)] at h ⊢
      exact T2.asym _ _ h
    · rw [if_neg (by rwa [beq_iff_eq])] at h
      rw [if_neg (by rw [beq_iff_eq]; exact fun h => e h.symm)]
      exact T1.asym _ _ h
  trans := fun a b c h1 h2 => by
    unfold lexP at h1 h2 ⊢
    by_cases e1 : b.1 = a.1
    · rw [if_pos (by rw [e1]; exact beq_self_eq_true _)] at h1
      by_cases e2 : c.1 = b.1
      · rw [if_pos (by rw [e2]; exact beq_self_eq_true _)] at h2
        rw [if_pos (by rw [e2, e1]; exact beq_self_eq_true _)]
        exact T2.trans _ _ _ h1 h2
      · rw [if_neg (by rwa [beq_iff_eq])] at h2
        rw [if_neg (by rw [beq_iff_eq, ← e1]; exact e2), ← e1]
        exact h2
    · rw [if_neg (by rwa [beq_iff_eq])] at h1
      by_cases e2 : c.1 = b.1
      · rw [if_neg (by rw [beq_iff_eq, e2]; exact e1), e2]
        exact h1
      · rw [if_neg (by rwa [beq_iff_eq])] at h2
        by_cases e3 : c.1 = a.1
        · rw [e3] at h2
          exact absurd (T1.anti _ _ h1 h2) e1
        · rw [if_neg (by rwa [beq_iff_eq])]
          exact T1.trans _ _ _ h1 h2
  anti := fun a b h1 h2 => by
    unfold lexP at h1 h2
    by_cases e : a.1 = b.1
    · rw [if_pos (by rw [e]; exact beq_self_eq_true _)] at h1 h2
      exact Prod.ext e (T2.anti _ _ h1 h2)
    · rw [if_neg (by rwa [beq_iff_eq])] at h1
      rw [if_neg (by rw [beq_iff_eq]; exact fun h => e h.symm)] at h2
      exact absurd (T1.anti _ _ h1 h2) e
def ltI (a b : Int) : Bool := decide (a < b)
theorem ltI_tot : Tot ltI where
  asym := fun a b h => by unfold ltI at *; simp only [decide_eq_true_eq, decide_eq_false_iff_not] at *; omega
  trans := fun a b c h1 h2 => by unfold ltI at *; simp only [decide_eq_false_iff_not] at *; omega
  anti := fun a b h1 h2 => by unfold ltI at *; simp only [decide_eq_false_iff_not] at *; omega
theorem ltF_lex (f g : File) : ltF f g = lexP ltI (lexP ltL ltS) (f.k, f.ns, f.p) (g.k, g.ns, g.p) := by
  unfold ltF lexP ltI
  dsimp only
  by_cases h1 : (f.k == g.k) = true
  · rw [if_pos h1, if_pos h1]
    by_cases h2 : (f.ns == g.ns) = true
    · rw [if_pos h2, if_pos h2]
      by_cases h3 : (f.p == g.p) = true
      · rw [if_pos h3, eq_of_beq h3]; exact (ltS_tot.irr _).symm
      · rw [if_neg h3]
    · rw [if_neg h2, if_neg h2]
  · rw [if_neg h1, if_neg h1]
theorem ltF_ord : OrdL ltF where
  asym := fun a b h => by rw [ltF_lex] at *; exact (lex_tot ltI_tot (lex_tot ltL_tot ltS_tot)).asym _ _ h
  trans := fun a b c h1 h2 => by rw [ltF_lex] at *; exact (lex_tot ltI_tot (lex_tot ltL_tot ltS_tot)).trans _ _ _ h1 h2
/-- what the pushes make: a heap of the same files -/
theorem push_all : ∀ (l acc : List File), IsHp ltF acc → IsHp ltF (l.foldl pushF acc) ∧ SameL (l.foldl pushF acc) (acc ++ l)
  | [], acc, h => ⟨h, by rw [List.append_nil]; exact SameL.rfl'⟩
  | x :: l, acc, h => by
    have h1 := push_heap ltF_ord (x := x) h
    have h2 := push_all l (pushF acc x) h1.1
    refine ⟨h2.1, fun p => ?_⟩
    have e1 := h2.2 p
    have e2 := h1.2 p
    rw [List.foldl_cons, e1]
    show (pushF acc x ++ l).countP p = _
    unfold pushF
    rw [List.countP_append, e2, List.countP_append, List.countP_append, List.countP_cons, List.countP_cons]
    simp only [List.countP_nil]
    omega
theorem same_mem {α : Type} {A B : List α} (h : SameL A B) {a : α} (ha : a ∈ A) : a ∈ B := by
  have h1 := h (fun b => @decide (b = a) (Classical.propDecidable _))
  have h2 : 0 < A.countP (fun b => @decide (b = a) (Classical.propDecidable _)) := List.countP_pos_iff.mpr ⟨a, ha, @decide_eq_true _ (Classical.propDecidable _) rfl⟩
  rw [h1, List.countP_pos_iff] at h2
  obtain ⟨b, hb, e⟩ := h2
  have e' : b = a := @of_decide_eq_true _ (Classical.propDecidable _) e
  rwa [← e']
theorem pop_all (l : List File) (h : IsHp ltF l) : ∀ i, i ≤ l.length → IsHp ltF (popIt i l).2 ∧ (popIt i l).2.length = l.length - i ∧ SameL ((popIt i l).1 ++ (popIt i l).2) l ∧ (popIt i l).1.Pairwise (fun a b => ltF b a = false) ∧ ∀ a ∈ (popIt i l).1, ∀ b ∈ (popIt i l).2, ltF b a = false
  | 0, _ => ⟨h, rfl, SameL.rfl', .nil, fun _ h => nomatch h⟩
  | i + 1, hi => by
    obtain ⟨h1, h2, h3, h4, h5⟩ := pop_all l h i (by omega)
    have e : popIt (i + 1) l = popStep (popIt i l) := rfl
    rw [e]
    generalize popIt i l = st at h1 h2 h3 h4 h5
    obtain ⟨dn, hp⟩ := st
    dsimp only at h1 h2 h3 h4 h5
    rcases List.eq_nil_or_concat hp with rfl | ⟨init, y, rfl⟩
    · simp at h2; omega
    · rw [List.concat_eq_append] at *
      have hs : popStep (dn, init ++ [y]) = (dn ++ [(popF ltF init y).2], (popF ltF init y).1) := by
        unfold popStep
        dsimp only
        rw [List.getLast?_concat, List.dropLast_concat]
      rw [hs]
      obtain ⟨k1, k2, k3⟩ := popF_heap ltF_ord h1
      have hmem : ∀ a, a ∈ (popF ltF init y).1 ∨ a = (popF ltF init y).2 → a ∈ init ++ [y] := fun a ha =>
        same_mem k2 (ha.elim (fun h => .tail _ h) (fun h => h ▸ .head _))
      refine ⟨k1, ?_, fun p => ?_, ?_, ?_⟩
      · have := k2 (fun _ => true)
        simp only [List.countP_true, List.length_cons] at this
        dsimp only
        omega
      · have e1 := k2 p
        have e2 := h3 p
        dsimp only
        rw [List.countP_append, List.countP_append] at *
        rw [List.countP_cons] at e1
        rw [List.countP_cons, List.countP_nil]
        omega
      · dsimp only
        rw [List.pairwise_append]
        refine ⟨h4, List.pairwise_singleton _ _, fun a ha b hb => ?_⟩
        rw [List.mem_singleton.mp hb]
        exact h5 a ha _ (hmem _ (.inr rfl))
      · intro a ha b hb
        dsimp only at ha hb
        rcases List.mem_append.mp ha with ha | ha
        · exact h5 a ha b (hmem b (.inl hb))
        · rw [List.mem_singleton.mp ha]
          exact k3 b (hmem b (.inl hb))
end
/- part P2 -/
theorem freshP2 : True := by
  w_top off
  trivial
section
set_option Elab.async false
set_option maxRecDepth 100000
set_option maxHeartbeats 8000000
set_option linter.unusedVariables false
def nm3 : List Str := [Str.ofString "a", Str.ofString "b", Str.ofString "a-"]
def allN : List (List Str) := [] :: (nm3.map (fun a => [a]) ++ (nm3.flatMap fun a => nm3.map fun b => [a, b]) ++ (nm3.flatMap fun a => nm3.flatMap fun b => nm3.map fun c => [a, b, c]))
theorem allN_figs : (digs.all fun a => digs.all fun b => digs.all fun c => allN.contains (namesF [a, b, c])) = true := by decide +kernel
def okN (ns : List Str) : Bool := decide ((pathF ns).length ≤ 1000) && decide (aboveN 5 (pathF ns) [pathF ns] = some ((List.range (ns.length + 1)).map (textF ns)).reverse) && decide (((List.range (ns.length + 1)).map (textF ns)).Nodup) && decide (ns.length ≤ 3) && Txt.startswith (pathF ns) (Str.ofString "/") && decide ((Txt.split (pathF ns) (Str.ofString "/")).length ≤ 10) && decide (filtN (Txt.split (pathF ns) (Str.ofString "/")) = ns) && decide (Str.ofString "/" ++ Txt.join (Str.ofString "/") ns = pathF ns) && (List.range (ns.length + 1)).all (fun i => allN.contains (ns.take i))
theorem okN_all : allN.all okN = true := by decide +kernel
structure OkN (ns : List Str) : Prop where
  len : (pathF ns).length ≤ 1000
  abvE : aboveN 5 (pathF ns) [pathF ns] = some ((List.range (ns.length + 1)).map (textF ns)).reverse
  nodup : ((List.range (ns.length + 1)).map (textF ns)).Nodup
  len3 : ns.length ≤ 3
  sw : Txt.startswith (pathF ns) (Str.ofString "/") = true
  spl : (Txt.split (pathF ns) (Str.ofString "/")).length ≤ 10
  fil : filtN (Txt.split (pathF ns) (Str.ofString "/")) = ns
  jn : Str.ofString "/" ++ Txt.join (Str.ofString "/") ns = pathF ns
  tk : ∀ i, i < ns.length + 1 → ns.take i ∈ allN
theorem okN_of {ns : List Str} (h : ns ∈ allN) : OkN ns := by
  have h1 := List.all_eq_true.mp okN_all ns h
  unfold okN at h1
  simp only [Bool.and_eq_true, decide_eq_true_eq] at h1
  obtain ⟨⟨⟨⟨⟨⟨⟨⟨h1, h2⟩, h3⟩, h4⟩, h5⟩, h6⟩, h7⟩, h8⟩, h9⟩ := h1
  exact ⟨h1, h2, h3, h4, h5, h6, h7, h8, fun i hi => List.contains_iff_mem.mp (List.all_eq_true.mp h9 i (List.mem_range.mpr hi))⟩
theorem nsOf_all (n : Int) : nsOf n ∈ allN := by
  have h := allN_figs
  rw [List.all_eq_true] at h
  have d : ∀ i (hi : i < 3), ((figs (n.fdiv 3))[i]'hi) ∈ digs := fun i hi => dig_mem (figs_lo (List.getElem?_eq_getElem hi)) (figs_hi (List.getElem?_eq_getElem hi))
  have h1 := h _ (d 0 (by decide))
  rw [List.all_eq_true] at h1
  have h2 := h1 _ (d 1 (by decide))
  rw [List.all_eq_true] at h2
  exact List.contains_iff_mem.mp (h2 _ (d 2 (by decide)))
theorem textF_path {ns : List Str} (h : ns ∈ allN) {i : Nat} (hi : i < ns.length + 1) : textF ns i = pathF (ns.take i) := (okN_of ((okN_of h).tk i hi)).jn
theorem pre_all {ns q : List Str} (h : ns ∈ allN) (hq : q <+: ns) : q ∈ allN := by
  rw [List.prefix_iff_eq_take.mp hq]
  exact (okN_of h).tk _ (Nat.lt_succ_of_le hq.length_le)
theorem path_inj {a b : List Str} (ha : a ∈ allN) (hb : b ∈ allN) (h : pathF a = pathF b) : a = b := by
  rw [← (okN_of ha).fil, h, (okN_of hb).fil]
def U (z : Str) (ns : List Str) : Bool := ((List.range (ns.length + 1)).map (textF ns)).contains z
theorem U_iff {z : Str} {ns : List Str} (h : ns ∈ allN) : U z ns = true ↔ ∃ q, q <+: ns ∧ z = pathF q := by
  unfold U
  rw [List.contains_iff_mem, List.mem_map]
  constructor
  · rintro ⟨i, hi, rfl⟩
    exact ⟨ns.take i, List.take_prefix _ _, textF_path h (List.mem_range.mp hi)⟩
  · rintro ⟨q, hq, rfl⟩
    have hl := hq.length_le
    refine ⟨q.length, List.mem_range.mpr (by omega), ?_⟩
    rw [textF_path h (by omega), ← List.prefix_iff_eq_take.mp hq]
theorem abv_eq {ns : List Str} (h : ns ∈ allN) : abv (pathF ns) = ((List.range (ns.length + 1)).map (textF ns)).reverse := by
  unfold abv; rw [(okN_of h).abvE]; rfl
theorem abv_count {ns : List Str} (h : ns ∈ allN) (z : Str) : (abv (pathF ns)).count z = if U z ns = true then 1 else 0 := by
  rw [abv_eq h, List.count_reverse, (okN_of h).nodup.count]
  unfold U
  by_cases hm : z ∈ (List.range (ns.length + 1)).map (textF ns)
  · rw [if_pos hm, if_pos (List.contains_iff_mem.mpr hm)]
  · rw [if_neg hm, if_neg (fun h9 => hm (List.contains_iff_mem.mp h9))]
theorem goodP_of {ns : List Str} (h : ns ∈ allN) : GoodP (pathF ns) := by
  refine ⟨(okN_of h).len, ?_, ?_⟩
  · rw [abv_eq h]; exact (okN_of h).abvE
  · rw [abv_eq h, List.length_reverse, List.length_map, List.length_range]
    have := (okN_of h).len3
    omega
theorem goodQ_of {ns : List Str} (h : ns ∈ allN) : GoodQ (pathF ns) := ⟨(okN_of h).sw, (okN_of h).spl⟩
theorem lcp_comm : ∀ a b : List Str, lcpF a b = lcpF b a
  | [], [] => rfl
  | [], _ :: _ => rfl
  | _ :: _, [] => rfl
  | x :: xs, y :: ys => by
    unfold lcpF
    by_cases e : x = y
    · subst e
      rw [if_pos (beq_self_eq_true x), if_pos (beq_self_eq_true x), lcp_comm xs ys]
    · rw [if_neg (by rwa [beq_iff_eq]), if_neg (by rw [beq_iff_eq]; exact fun h => e h.symm)]
theorem lcp_pre : ∀ a b : List Str, lcpF a b <+: a
  | [], [] => List.nil_prefix
  | [], _ :: _ => List.nil_prefix
  | _ :: _, [] => List.nil_prefix
  | x :: xs, y :: ys => by
    unfold lcpF
    by_cases e : x = y
    · subst e
      rw [if_pos (beq_self_eq_true x)]
      exact List.cons_prefix_cons.mpr ⟨rfl, lcp_pre xs ys⟩
    · rw [if_neg (by rwa [beq_iff_eq])]
      exact List.nil_prefix
theorem pre_lcp : ∀ q a b : List Str, q <+: a → q <+: b → q <+: lcpF a b
  | [], _, _, _, _ => List.nil_prefix
  | x :: q, [], _, h, _ => by simp at h
  | x :: q, _ :: _, [], _, h => by simp at h
  | x :: q, y :: a, w :: b, h1, h2 => by
    obtain ⟨rfl, h5⟩ := List.cons_prefix_cons.mp h1
    obtain ⟨rfl, h6⟩ := List.cons_prefix_cons.mp h2
    unfold lcpF
    rw [if_pos (beq_self_eq_true x)]
    exact List.cons_prefix_cons.mpr ⟨rfl, pre_lcp q a b h5 h6⟩
theorem pre_mid : ∀ q a b c : List Str, q <+: a → q <+: c → ltL b a = false → ltL c b = false → q <+: b
  | [], _, _, _, _, _, _, _ => List.nil_prefix
  | x :: q, [], _, _, h, _, _, _ => by simp at h
  | x :: q, _ :: _, _, [], _, h, _, _ => by simp at h
  | x :: q, y :: a, [], w :: c, _, _, h, _ => by simp [ltL] at h
  | x :: q, y :: a, v :: b, w :: c, h1, h2, h3, h4 => by
    obtain ⟨rfl, h5⟩ := List.cons_prefix_cons.mp h1
    obtain ⟨rfl, h6⟩ := List.cons_prefix_cons.mp h2
    unfold ltL at h3 h4
    by_cases e : v = x
    · subst e
      rw [if_pos (beq_self_eq_true v)] at h3 h4
      exact List.cons_prefix_cons.mpr ⟨rfl, pre_mid q a b c h5 h6 h3 h4⟩
    · rw [if_neg (by rwa [beq_iff_eq])] at h3
      rw [if_neg (by rw [beq_iff_eq]; exact fun h => e h.symm)] at h4
      exact absurd (ltS_tot.anti _ _ h3 h4) e
theorem lcp_all2 {a b : List Str} (ha : a ∈ allN) : lcpF a b ∈ allN := pre_all ha (lcp_pre a b)
theorem comm_path {a b : List Str} (ha : a ∈ allN) (hb : b ∈ allN) : commF (pathF a) (pathF b) = pathF (lcpF a b) := by
  have e : commL (pathF a) (pathF b) = lcpF a b := by
    unfold commL
    rw [(okN_of ha).fil, (okN_of hb).fil]
    unfold mnF mxF
    cases h : ltL b a with
    | true =>
      rw [if_pos rfl, ltL_asym b a h, if_neg Bool.false_ne_true]
      exact lcp_comm b a
    | false =>
      rw [if_neg Bool.false_ne_true]
      cases h' : ltL a b with
      | true => rw [if_pos rfl]
      | false => rw [if_neg Bool.false_ne_true, ltL_anti a b h' h]
  unfold commF
  rw [e]
  exact (okN_of (lcp_all2 ha)).jn
theorem U_lcp {z : Str} {a b : List Str} (ha : a ∈ allN) (hb : b ∈ allN) : U z (lcpF a b) = true ↔ U z a = true ∧ U z b = true := by
  rw [U_iff ha, U_iff hb, U_iff (lcp_all2 ha)]
  constructor
  · rintro ⟨q, hq, rfl⟩
    exact ⟨⟨q, hq.trans (lcp_pre a b), rfl⟩, ⟨q, hq.trans (by rw [lcp_comm]; exact lcp_pre b a), rfl⟩⟩
  · rintro ⟨⟨q, hq, rfl⟩, ⟨q', hq', e⟩⟩
    have e1 := path_inj (pre_all ha hq) (pre_all hb hq') e
    subst e1
    exact ⟨q, pre_lcp q a b hq hq', rfl⟩
theorem U_mid {z : Str} {a b c : List Str} (ha : a ∈ allN) (hb : b ∈ allN) (hc : c ∈ allN) (h1 : ltL b a = false) (h2 : ltL c b = false) (ua : U z a = true) (uc : U z c = true) : U z b = true := by
  rw [U_iff ha] at ua
  rw [U_iff hc] at uc
  rw [U_iff hb]
  obtain ⟨q, hq, rfl⟩ := ua
  obtain ⟨q', hq', e⟩ := uc
  have e1 := path_inj (pre_all ha hq) (pre_all hc hq') e
  subst e1
  exact ⟨q, pre_mid q a b c hq hq' h1 h2, rfl⟩
/-- no later than: what ltF's 'no' says of the kinds and the names -/
def LeF (a b : File) : Prop := a.k ≤ b.k ∧ (a.k = b.k → ltL b.ns a.ns = false)
theorem leF_refl (a : File) : LeF a a := ⟨Int.le_refl _, fun _ => ltL_irr _⟩
theorem leF_of {a b : File} (h : ltF b a = false) : LeF a b := by
  unfold ltF at h
  by_cases e : b.k = a.k
  · rw [if_pos (by rw [e]; exact beq_self_eq_true _)] at h
    refine ⟨by omega, fun _ => ?_⟩
    by_cases e2 : b.ns = a.ns
    · rw [e2]; exact ltL_irr _
    · rw [if_neg (by rwa [beq_iff_eq])] at h
      exact h
  · rw [if_neg (by rwa [beq_iff_eq])] at h
    have h2 := of_decide_eq_false h
    exact ⟨by omega, fun h9 => absurd h9.symm e⟩
def stK (z : Str) (ks : List Int) (f : File) : List Int := if U z f.ns = true then addK ks f.k else ks
def kC (z : Str) (l : List File) : List Int := l.foldl (stK z) []
theorem mem_addK {ks : List Int} {k x : Int} : x ∈ addK ks k ↔ x ∈ ks ∨ x = k := by
  unfold addK
  by_cases h : ks.contains k = true
  · rw [if_pos h]
    exact ⟨.inl, fun h' => h'.elim id fun e => e ▸ List.contains_iff_mem.mp h⟩
  · rw [if_neg h, List.mem_append, List.mem_singleton]
theorem addK_nodup {ks : List Int} {k : Int} (h : ks.Nodup) : (addK ks k).Nodup := by
  unfold addK
  by_cases h' : ks.contains k = true
  · rwa [if_pos h']
  · rw [if_neg h', List.nodup_append]
    refine ⟨h, by simp, fun a ha b hb => ?_⟩
    rw [List.mem_singleton.mp hb]
    exact fun e => h' (List.contains_iff_mem.mpr (e ▸ ha))
theorem addK_twice (ks : List Int) (k : Int) : addK (addK ks k) k = addK ks k := by
  have h : (addK ks k).contains k = true := List.contains_iff_mem.mpr (mem_addK.mpr (.inr rfl))
  have e : addK (addK ks k) k = if (addK ks k).contains k = true then addK ks k else addK ks k ++ [k] := rfl
  rw [e, if_pos h]
theorem kC_mem_aux (z : Str) (k : Int) : ∀ (l : List File) (acc : List Int), k ∈ l.foldl (stK z) acc ↔ k ∈ acc ∨ ∃ f ∈ l, f.k = k ∧ U z f.ns = true
  | [], acc => by simp
  | f :: l, acc => by
    rw [List.foldl_cons, kC_mem_aux z k l]
    unfold stK
    by_cases h : U z f.ns = true
    · rw [if_pos h, mem_addK]
      constructor
      · rintro ((h1 | h1) | ⟨g, hg, h1⟩)
        · exact .inl h1
        · exact .inr ⟨f, .head _, h1.symm, h⟩
        · exact .inr ⟨g, .tail _ hg, h1⟩
      · rintro (h1 | ⟨g, hg, h1⟩)
        · exact .inl (.inl h1)
        · rcases List.mem_cons.mp hg with rfl | hg
          · exact .inl (.inr h1.1.symm)
          · exact .inr ⟨g, hg, h1⟩
    · rw [if_neg h]
      constructor
      · rintro (h1 | ⟨g, hg, h1⟩)
        · exact .inl h1
        · exact .inr ⟨g, .tail _ hg, h1⟩
      · rintro (h1 | ⟨g, hg, h1⟩)
        · exact .inl h1
        · rcases List.mem_cons.mp hg with rfl | hg
          · exact absurd h1.2 h
          · exact .inr ⟨g, hg, h1⟩
theorem kC_nodup_aux (z : Str) : ∀ (l : List File) (acc : List Int), acc.Nodup → (l.foldl (stK z) acc).Nodup
  | [], acc, h => h
  | f :: l, acc, h => by
    rw [List.foldl_cons]
    refine kC_nodup_aux z l _ ?_
    unfold stK
    split
    · exact addK_nodup h
    · exact h
theorem kC_mem {z : Str} {k : Int} {l : List File} : k ∈ kC z l ↔ ∃ f ∈ l, f.k = k ∧ U z f.ns = true := by
  unfold kC; rw [kC_mem_aux]; simp
theorem kC_same {z : Str} {l l' : List File} (h : ∀ f, f ∈ l ↔ f ∈ l') : (kC z l).length = (kC z l').length := by
  refine List.Perm.length_eq ((List.perm_ext_iff_of_nodup (kC_nodup_aux z l [] .nil) (kC_nodup_aux z l' [] .nil)).mpr fun k => ?_)
  show k ∈ kC z l ↔ k ∈ kC z l'
  rw [kC_mem, kC_mem]
  exact ⟨fun ⟨f, hf, h1⟩ => ⟨f, (h f).mp hf, h1⟩, fun ⟨f, hf, h1⟩ => ⟨f, (h f).mpr hf, h1⟩⟩
theorem count_sorted {fs : List File} (hN : ∀ f ∈ fs, f.ns ∈ allN ∧ f.p = pathF f.ns) (hs : fs.Pairwise (fun a b => ltF b a = false)) (z : Str) : ∀ i, i ≤ fs.length → (kC z (fs.take i)).length + (meetsF fs i).count z = (placesF fs i).count z
  | 0, _ => by simp [kC, meetsF, placesF]
  | i + 1, hi => by
    have ih := count_sorted hN hs z i (by omega)
    obtain ⟨f, hf⟩ : ∃ f, fs[i]? = some f := ⟨_, List.getElem?_eq_getElem (by omega)⟩
    obtain ⟨fN, fp⟩ := hN f (List.mem_of_getElem? hf)
    have ek : kC z (fs.take (i + 1)) = stK z (kC z (fs.take i)) f := by unfold kC; rw [take_snoc hf, List.foldl_append]; rfl
    have hm : (meetF fs i).count z = if U z f.ns = true ∧ f.k ∈ kC z (fs.take i) then 1 else 0 := by
      cases i with
      | zero =>
        rw [meetF_zero, if_neg (fun h => by have := h.2; simp [kC] at this)]; rfl
      | succ j =>
        obtain ⟨g, hg⟩ : ∃ f, fs[j]? = some f := ⟨_, List.getElem?_eq_getElem (by omega)⟩
        obtain ⟨gN, gp⟩ := hN g (List.mem_of_getElem? hg)
        have rel : ∀ a b (x y : File), a < b → fs[a]? = some x → fs[b]? = some y → LeF x y := fun a b x y hab hx hy => by
          obtain ⟨ha, rfl⟩ := List.getElem?_eq_some_iff.mp hx
          obtain ⟨hb, rfl⟩ := List.getElem?_eq_some_iff.mp hy
          exact leF_of (List.pairwise_iff_getElem.mp hs a b ha hb hab)
        have gf := rel j (j + 1) g f (Nat.lt_succ_self _) hg hf
        have hpre : ∀ x ∈ fs.take (j + 1), LeF x g ∧ x.ns ∈ allN := fun x hx => by
          refine ⟨?_, (hN x (List.mem_of_mem_take hx)).1⟩
          obtain ⟨t, ht⟩ := List.mem_iff_getElem?.mp hx
          rw [List.getElem?_take] at ht
          split at ht
          · rename_i h9
            by_cases e : t = j
            · subst e
              rw [hg] at ht; cases ht; exact leF_refl _
            · exact rel t j x g (by omega) ht hg
          · cases ht
        rw [meetF_succ hg hf]
        by_cases e : g.k = f.k
        · rw [if_pos e, gp, fp, comm_path gN fN, abv_count (lcp_all2 gN)]
          have key : (U z (lcpF g.ns f.ns) = true) ↔ (U z f.ns = true ∧ f.k ∈ kC z (fs.take (j + 1))) := by
            rw [U_lcp gN fN, kC_mem]
            constructor
            · rintro ⟨h1, h2⟩
              refine ⟨h2, g, ?_, e, h1⟩
              rw [take_snoc hg]; exact List.mem_append.mpr (.inr (.head _))
            · rintro ⟨h1, x, hx, hk, hu⟩
              obtain ⟨hle, xN⟩ := hpre x hx
              exact ⟨U_mid xN gN fN (hle.2 (by omega)) (gf.2 e) hu h1, h1⟩
          by_cases hu : U z (lcpF g.ns f.ns) = true
          · rw [if_pos hu, if_pos (key.mp hu)]
          · rw [if_neg hu, if_neg (fun h9 => hu (key.mpr h9))]
        · rw [if_neg e, if_neg]
          · rfl
          · rintro ⟨h1, h2⟩
            rw [kC_mem] at h2
            obtain ⟨x, hx, hk, hu⟩ := h2
            obtain ⟨hle, xN⟩ := hpre x hx
            have h7 := hle.1
            have h8 := gf.1
            exact e (by omega)
    rw [placesF_succ hf, meetsF_succ, List.count_append, List.count_append, hm, fp, abv_count fN, ek]
    unfold stK
    by_cases hU : U z f.ns = true
    · rw [if_pos hU, if_pos hU]
      unfold addK
      by_cases hk : f.k ∈ kC z (fs.take i)
      · rw [if_pos (show U z f.ns = true ∧ f.k ∈ kC z (fs.take i) from ⟨hU, hk⟩), if_pos (show (kC z (fs.take i)).contains f.k = true from List.contains_iff_mem.mpr hk)]; omega
      · rw [if_neg (show ¬ (U z f.ns = true ∧ f.k ∈ kC z (fs.take i)) from fun h => hk h.2), if_neg (show ¬ (kC z (fs.take i)).contains f.k = true from fun h => hk (List.contains_iff_mem.mp h)), List.length_append]
        simp only [List.length_cons, List.length_nil]; omega
    · rw [if_neg hU, if_neg hU, if_neg (show ¬ (U z f.ns = true ∧ f.k ∈ kC z (fs.take i)) from fun h => hU h.1)]; omega
theorem look_step (ns : List Str) (k : Int) (D : List (Str × List Int)) (z : Str) : ∀ i, (lookD (stepD ns k D i) z).getD [] = if ((List.range i).map (textF ns)).contains z = true then addK ((lookD D z).getD []) k else (lookD D z).getD []
  | 0 => by rw [if_neg (by simp)]; rfl
  | i + 1 => by
    have ih := look_step ns k D z i
    rw [stepD_succ, look_add]
    by_cases h : z = textF ns i
    · rw [if_pos h, if_pos (by rw [List.contains_iff_mem, List.mem_map]; exact ⟨i, List.mem_range.mpr (Nat.lt_succ_self _), h.symm⟩), ← h, Option.getD_some, ih]
      split
      · exact addK_twice _ _
      · rfl
    · rw [if_neg h, ih]
      have e : (((List.range (i + 1)).map (textF ns)).contains z = true) ↔ (((List.range i).map (textF ns)).contains z = true) := by
        rw [List.contains_iff_mem, List.contains_iff_mem, List.range_succ, List.map_append, List.mem_append]
        constructor
        · rintro (h1 | h1)
          · exact h1
          · exact absurd (by simpa using h1) h
        · exact .inl
      by_cases h1 : ((List.range i).map (textF ns)).contains z = true
      · rw [if_pos h1, if_pos (e.mpr h1)]
      · rw [if_neg h1, if_neg (fun h9 => h1 (e.mp h9))]
theorem look_due (z : Str) : ∀ (l : List Int) (D : List (Str × List Int)), (lookD (l.foldl (fun D n => stepD (nsOf n) (n.fmod 3) D ((nsOf n).length + 1)) D) z).getD [] = (l.map fileOf).foldl (stK z) ((lookD D z).getD [])
  | [], D => rfl
  | n :: l, D => by
    rw [List.foldl_cons, look_due z l, look_step, List.map_cons, List.foldl_cons]; rfl
theorem due_count (l : List Int) (z : Str) : (flatD (dueD l)).count z = (kC z (l.map fileOf)).length := by
  rw [count_flat z _ (due_ok l).1]
  have h := look_due z l []
  have e : dueD l = l.foldl (fun D n => stepD (nsOf n) (n.fmod 3) D ((nsOf n).length + 1)) [] := rfl
  rw [e, h]; rfl
theorem plain_law {ps : List (Int × Tok)} {done : List VF} (hpl : ps.length = 6) (hdl : done.length = 6) (hpop : (done.map (·.2), ([] : List File)) = popIt 6 ((ps.map fun p => fileOf p.1).foldl pushF [])) :
    (∀ f ∈ done, GoodP f.2.p ∧ GoodQ f.2.p) ∧ (∀ f ∈ done, ∀ g ∈ done, GoodP (commF f.2.p g.2.p)) ∧ ∀ z, (flatD (dueD (ps.map (·.1)))).count z + (meetsF (done.map (·.2)) 6).count z = (placesF (done.map (·.2)) 6).count z := by
  have emap : (ps.map fun p => fileOf p.1) = (ps.map (·.1)).map fileOf := by rw [List.map_map]; rfl
  rw [emap] at hpop
  obtain ⟨p1, p2⟩ := push_all ((ps.map (·.1)).map fileOf) [] (fun i a b _ h => by simp at h)
  rw [List.nil_append] at p2
  have hlen : (((ps.map (·.1)).map fileOf).foldl pushF []).length = 6 := by
    have h := p2 (fun _ => true)
    simp only [List.countP_true, List.length_map] at h
    rw [h]; exact hpl
  obtain ⟨_, _, q3, q4, _⟩ := pop_all _ p1 6 (by omega)
  rw [← hpop] at q3 q4
  dsimp only at q3 q4
  rw [List.append_nil] at q3
  have same : ∀ f, f ∈ done.map (·.2) ↔ f ∈ (ps.map (·.1)).map fileOf := fun f =>
    ⟨fun h => same_mem (q3.trans p2) h, fun h => same_mem (fun p => ((q3.trans p2) p).symm) h⟩
  have hN : ∀ f ∈ done.map (·.2), f.ns ∈ allN ∧ f.p = pathF f.ns := fun f hf => by
    obtain ⟨n, _, rfl⟩ := List.mem_map.mp ((same f).mp hf)
    exact ⟨nsOf_all n, rfl⟩
  have hD : ∀ f ∈ done, f.2.ns ∈ allN ∧ f.2.p = pathF f.2.ns := fun f hf => hN f.2 (List.mem_map.mpr ⟨f, hf, rfl⟩)
  refine ⟨fun f hf => ?_, fun f hf g hg => ?_, fun z => ?_⟩
  · obtain ⟨h1, h2⟩ := hD f hf
    rw [h2]; exact ⟨goodP_of h1, goodQ_of h1⟩
  · obtain ⟨h1, h2⟩ := hD f hf
    obtain ⟨h3, h4⟩ := hD g hg
    rw [h2, h4, comm_path h1 h3]
    exact goodP_of (lcp_all2 h1)
  · have hl : (done.map (·.2)).length = 6 := by rw [List.length_map]; exact hdl
    have h := count_sorted hN q4 z 6 (by omega)
    rw [due_count, ← kC_same (z := z) same, ← h]
    rw [List.take_of_length_le (by omega)]
end
/- part LW -/
theorem freshLW : True := by
  w_top off
  trivial
section
set_option Elab.async false
set_option maxRecDepth 100000
set_option maxHeartbeats 8000000
set_option linter.unusedVariables false
local macro_rules | `(tactic| walk_at "compareOp Eq ref ref") => `(tactic| (k_here; refine hold_ ?_))
local macro_rules | `(tactic| walk_at "compareOp Eq ref") => `(tactic| (k_here; refine hold_ ?_))
local macro_rules | `(tactic| walk_at "call builtin:sorted") => `(tactic| (k_here; refine hold_ ?_))
local macro_rules | `(tactic| walk_at "call ref") => `(tactic| (k_here; refine hold_ ?_))
theorem risingS_le : ∀ (l : List Str) (p : Str), risingS p l = true → (p :: l).Pairwise (fun a b => a.cps.toList ≤ b.cps.toList)
  | [], p, _ => by simp
  | x :: r, p, h => by
    unfold risingS at h
    rw [Bool.and_eq_true, Bool.not_eq_true', ltCps_eq, decide_eq_false_iff_not, List.not_lt] at h
    have ih := risingS_le r x h.2
    rw [List.pairwise_cons]
    refine ⟨fun b hb => ?_, ih⟩
    rcases List.mem_cons.mp hb with rfl | hb
    · exact h.1
    · exact List.le_trans h.1 ((List.pairwise_cons.mp ih).1 b hb)
theorem sortedS_le (l : List Str) (h : sortedS l = true) : l.Pairwise (fun a b => a.cps.toList ≤ b.cps.toList) := by
  cases l with
  | nil => exact .nil
  | cons x r => exact risingS_le r x h
theorem str_cps {a b : Str} (h : a.cps.toList = b.cps.toList) : a = b := by
  have h2 := Array.toList_inj.mp h
  cases a; cases b
  exact congrArg _ h2
theorem sorted_eq {l l' : List Str} (h : sortedS l = true) (h' : sortedS l' = true) (hp : l.Perm l') : l = l' :=
  List.Perm.eq_of_pairwise (fun a b _ _ h1 h2 => str_cps (List.le_antisymm h1 h2)) (sortedS_le l h) (sortedS_le l' h') hp
theorem nums_in {ns : List Int} {n : Int} (h : n ∈ List.take 6 (List.map (fun k' => Int.fmod k' (10 ^ 6)) (List.take 6 ns) ++ [9, 76, 27, 7, 3, 19])) : 0 ≤ n ∧ n < 1000000 := by
  have h1 := List.mem_of_mem_take h
  rcases List.mem_append.mp h1 with h1 | h1
  · obtain ⟨k, _, rfl⟩ := List.mem_map.mp h1
    exact ⟨Int.fmod_nonneg_of_pos _ (by decide), Int.fmod_lt_of_pos _ (by decide)⟩
  · simp only [List.mem_cons, List.not_mem_nil, or_false] at h1
    omega
theorem iv_of_ints : ∀ {vs : List Value} {ns : List Int}, IntsAre vs ns → ∃ ps : List (Int × Tok), vs = iv ps ∧ ps.map (·.1) = ns
  | _, _, .nil => ⟨[], rfl, rfl⟩
  | _, _, .cons n t h => by
    obtain ⟨ps, rfl, rfl⟩ := iv_of_ints h
    exact ⟨(n, t) :: ps, rfl, rfl⟩

local macro_rules | `(tactic| k_qdec) => `(tactic| kernel_rfl)
-- a Unit ahead: the statement itself is a conjunction, which the walk would else weigh against its own facts
theorem law_all : Unit → PySem.Challenge.rw_pd0144_01.Holds := by
  intro u
  clear u
  refine hd ?_
  k_go0
  all_goals try k_fold
  k_steps
  unfold Hold
  rename Fr _ _ _ _ => F1
  rename News _ _ _ _ => N1
  rename IntsAre _ _ => hI1
  rename List.length _ = _ => hlen1
  obtain ⟨ps, rfl, hps⟩ := iv_of_ints hI1
  have hpl : ps.length = 6 := by
    have h9 := congrArg List.length hps
    rw [List.length_map] at h9
    rw [h9]; rw [List.length_take, List.length_append]; simp only [List.length_cons, List.length_nil]; omega
  have hbb : ∀ p ∈ ps, 0 ≤ p.1 ∧ p.1 < 1000000 := fun p hp => nums_in (by rw [← hps]; exact List.mem_map.mpr ⟨p, hp, rfl⟩)
  refine popped_spec (ps := ps) (n0 := 0) (.head _) hpl hbb (by k_asm) F1 (by k_asm) N1 (by k_asm) (by first | exact rfl | assumption) (by ktr_room) (by ktr_units) ?_
  intro r done nn tl h2 tk2 hdl hpop hvf F2 N2 off2
  clear F1 N1
  (try dsimp only)
  (try k_fold)
  k_steps
  unfold Hold
  rename Fr _ _ _ _ => F3
  rename News _ _ _ _ => N3
  obtain ⟨hg, hc, hcount⟩ := plain_law hpl hdl hpop
  refine left_spec (vfs := done) (n0 := nn) (.head _) (fun e he => (hvf e he).mono fun p hp => .tail _ hp) hdl hg hc (fun z => by rw [← hcount z]; exact Nat.le_add_left _ _) (by k_asm) F3 (by k_asm) N3 (by k_asm) (by first | exact rfl | assumption) (by ktr_room) (by ktr_units) ?_
  intro q mi pa rr n9 h3 tk3 hcnt F4 N4
  clear F3 N3
  (try dsimp only)
  (try k_fold)
  k_steps
  unfold Hold
  rename Fr _ _ _ _ => F5
  rename News _ _ _ _ => N5
  refine cmp_ofEq ?_
  refine rcAt_texts (ps := []) (qs := []) ⟨_, (N5 _ (.tail _ (.tail _ (.head _)))).1, rfl, _, rfl⟩ ⟨_, (N5 _ (.head _)).1, rfl, _, rfl⟩ (by ktr_units) _ _ _ _ ?_
  rw [show ((([] : List (Str × Tok)).map (·.1)) == (([] : List (Str × Tok)).map (·.1))) = true from rfl]
  have hperm : (rr.map (·.1)).Perm (flatD (dueD (ps.map (·.1)))) := List.perm_iff_count.mpr fun z => by
    have h1 := hcnt z
    have h2 := hcount z
    unfold cnt at h1
    omega
  have hr64 : (tv rr).length < 64 := by
    have h9 := hperm.length_eq
    have h8 := (due_ok (ps.map (·.1))).2
    rw [List.length_map] at h8 h9
    rw [tv_length]; omega
  k_steps
  unfold Hold
  rename Fr _ _ _ _ => F6
  rename News _ _ _ _ => N6
  k_dflt (refine sorted_N_str (vs := tv rr) (ss := rr.map (·.1)) F6 N6 ⟨_, (N6 _ (.tail _ (.tail _ (.tail _ (.head _))))).1, rfl, _, rfl⟩ (strsAre_tv rr) hr64 ?_)
  intro h7 vs7 ss7 e7 F7 N7 hS7 hp7 hs7
  obtain ⟨rs7, rfl, rfl⟩ := tv_of_strs hS7
  clear F6 N6

  k_steps
  unfold Hold
  rename Fr _ _ _ _ => F8
  rename News _ _ _ _ => N8
  refine due_spec (ps := ps) (n0 := 0) (.tail _ (.tail _ (.tail _ (.tail _ (.tail _ (.tail _ (List.mem_append.mpr (.inr (.head _))))))))) hpl hbb (by k_asm) F8 (by k_asm) N8 (by k_asm) (by first | exact rfl | assumption) (by ktr_room) (by ktr_units) ?_
  intro r9 rs9 n9' h9 tk9 hp9 hs9 F9 N9
  clear F8 N8
  (try dsimp only)
  (try k_fold)
  k_steps
  unfold Hold
  rename Fr _ _ _ _ => F10
  rename News _ _ _ _ => N10
  refine cmp_ofEq ?_
  refine rcAt_texts (ps := rs7) (qs := rs9) ⟨_, (N10 _ (.tail _ (.head _))).1, rfl, _, rfl⟩ ⟨_, (N10 _ (.head _)).1, rfl, _, rfl⟩ (by ktr_units) _ _ _ _ ?_
  have heq : rs7.map (·.1) = rs9.map (·.1) := sorted_eq hs7 hs9 (hp7.trans (hperm.trans hp9.symm))
  rw [heq, beq_self_eq_true]
  k_steps
end
end Mine
theorem PySem.Challenge.cw_pd0144_01_holds : PySem.Challenge.rw_pd0144_01.Holds := by
  exact Mine.law_all ()
