import PyProof.Rows.All
import Wide.All
import OpenK.AllK
import Wide.FinOn
import Lean
import PySem.Challenge.RW_mg0016_01
set_option Elab.async false
namespace Mine
section
open PySem PySem.W PyProof.Rows
set_option maxRecDepth 100000
set_option maxHeartbeats 0
set_option linter.unusedVariables false
set_option linter.unusedSimpArgs false
open_top hd for PySem.Challenge.rw_mg0016_01
end
end Mine
namespace Mine
section
open PySem PySem.W PySem.W.X PyProof.Rows PySem.Spec PySem.Calls
set_option maxRecDepth 100000
set_option maxHeartbeats 0
set_option linter.unusedVariables false
set_option linter.unusedSimpArgs false
noncomputable def finP (prog : Program) (w : World) (A : Around) (R : Result → Shared → Prop) : PySem.Fin → Shared → Prop
  | .done f, s => R (.ok f) s
  | .again c', s => c'.quiet = true ∧ codeAny (model prog w) A c' R s
/-- the ledger with sizes -/
structure Led (h₀ h : Heap) (chg news : List (Addr × Obj)) : Prop extends Mem h₀ h chg news where
  sz : h₀.objs.size ≤ h.objs.size
  lo : ∀ p ∈ news, h₀.objs.size ≤ p.1
theorem Led.start (h : Heap) : Led h h [] [] := ⟨Mem.start h, Nat.le_refl _, fun _ hp => (nomatch hp)⟩
theorem Led.at {h₀ h : Heap} {chg news : List (Addr × Obj)} (D : Led h₀ h chg news) (i : Nat) (a : Addr) (o : Obj) (hi : news[i]? = some (a, o)) : h.get? a = some o := D.toMem.at i a o hi
theorem Led.atC {h₀ h : Heap} {chg news : List (Addr × Obj)} (D : Led h₀ h chg news) (i : Nat) (a : Addr) (o : Obj) (hi : chg[i]? = some (a, o)) : h.get? a = some o := D.toMem.atC i a o hi
theorem Led.old {h₀ h : Heap} {chg news : List (Addr × Obj)} (D : Led h₀ h chg news) (a : Addr) (o : Obj) (e : h₀.get? a = some o) (q : (hasCls o || away chg a) = true) : h.get? a = some o := D.toMem.old a o e q
theorem Led.oldA {h₀ h : Heap} {chg news : List (Addr × Obj)} (D : Led h₀ h chg news) (a : Addr) (o : Obj) (e : h₀.get? a = some o) (q : away chg a = true) : h.get? a = some o := D.toMem.old a o e (by rw [q, Bool.or_true])
theorem Led.alloc {h₀ h : Heap} {chg news : List (Addr × Obj)} (D : Led h₀ h chg news) {o : Obj} (hf : o.isFreed = false) : Led h₀ (h.push o) chg ((h.objs.size, o) :: news) :=
  ⟨D.toMem.alloc hf, Nat.le_trans D.sz (by rw [size_push']; exact Nat.le_succ _), fun p hp => by
    rcases List.mem_cons.mp hp with rfl | hp
    · exact D.sz
    · exact D.lo p hp⟩
theorem Led.update {h₀ h : Heap} {chg news : List (Addr × Obj)} (D : Led h₀ h chg news) {i : Nat} {a : Addr} {o : Obj} {f : Obj → Obj} (hi : news[i]? = some (a, o)) (hf : (f o).isFreed = false) : Led h₀ (h.update a f) chg (news.set i (a, f o)) :=
  ⟨D.toMem.update hi hf, by rw [Heap.size_update]; exact D.sz, fun p hp => by
    rcases List.mem_or_eq_of_mem_set hp with hp | rfl
    · exact D.lo p hp
    · exact D.lo (a, o) (List.mem_of_getElem? hi)⟩
theorem Led.grow {h₀ h : Heap} {chg news : List (Addr × Obj)} (D : Led h₀ h chg news) {a : Addr} {f : Obj → Obj} {c : Addr} {ps more : Array Value} (ht : h₀.TableAt c a ps) (hw : away chg a = true) (hn : f (tableObj ps) = tableObj (ps ++ more)) : Led h₀ (h.update a f) ((a, tableObj (ps ++ more)) :: chg) news :=
  ⟨D.toMem.grow ht hw hn, by rw [Heap.size_update]; exact D.sz, D.lo⟩
theorem Led.there' {h₀ h : Heap} {chg news : List (Addr × Obj)} (D : Led h₀ h chg news) {b : Addr} {o : Obj} (e : h₀.get? b = some o) : ∃ o', h.get? b = some o' := D.toMem.there e
theorem Led.trans {h₀ h h' : Heap} {chg news news' : List (Addr × Obj)} (D : Led h₀ h chg news) (D' : Led h h' [] news') : Led h₀ h' chg (news' ++ news) := by
  have kp : ∀ b o, h.get? b = some o → h'.get? b = some o := fun b o e => D'.keep b o e (by rw [show away [] b = true from rfl, Bool.or_true])
  refine ⟨⟨fun b o e q => kp b o (D.keep b o e q), fun p hp => ⟨kp _ _ (D.ch p hp).1, (D.ch p hp).2⟩, D.cd, fun p hp => ?_, ?_⟩, Nat.le_trans D.sz D'.sz, fun p hp => ?_⟩
  · rcases List.mem_append.mp hp with hp | hp
    · refine ⟨(D'.nw p hp).1, ?_⟩
      cases q : h₀.get? p.1 with
      | none => rfl
      | some o =>
        obtain ⟨o', e'⟩ := D.there' q
        rw [(D'.nw p hp).2] at e'; cases e'
    · exact ⟨kp _ _ (D.nw p hp).1, (D.nw p hp).2⟩
  · rw [List.map_append]
    refine List.pairwise_append.mpr ⟨D'.ord, D.ord, fun x hx y hy => ?_⟩
    obtain ⟨p, hp, rfl⟩ := List.mem_map.mp hx
    obtain ⟨q, hq, rfl⟩ := List.mem_map.mp hy
    exact Nat.lt_of_lt_of_le (Heap.lt_size (D.nw q hq).1) (D'.lo p hp)
  · rcases List.mem_append.mp hp with hp | hp
    · exact Nat.le_trans D.sz (D'.lo p hp)
    · exact D.lo p hp
theorem Led.keeps {h₀ h : Heap} {news : List (Addr × Obj)} (D : Led h₀ h [] news) (b : Addr) (o : Obj) (e : h₀.get? b = some o) : h.get? b = some o := D.keep b o e (by rw [show away [] b = true from rfl, Bool.or_true])
section
variable {α : Type} {prog : Program} {w : World} {A : Around} {E : Value → Shared → Prop} {Q : α → Shared → Prop} {h₀ h : Heap} {g : Array GenState} {d : Drawn} {t : Nat} {os : OsState} {chg news : List (Addr × Obj)}

theorem s_load {a : Addr} {q : Option Value} {k : Obj → Sem α} {o : Obj} (ho : h.get? a = some o) (x : wpAny (model prog w) A (k o) Q E ⟨h, g, d, t, os⟩) :
    wpAny (model prog w) A (.load a q k) Q E ⟨h, g, d, t, os⟩ := x_load ho x
theorem s_fresh {k : Tok → Sem α} (x : wpAny (model prog w) A (k t) Q E ⟨h, g, d, t + 1, os⟩) : wpAny (model prog w) A (.fresh k) Q E ⟨h, g, d, t, os⟩ := x_fresh x
theorem s_alloc {o : Obj} {k : Addr → Sem α} (D : Led h₀ h chg news) (hf : o.isFreed = false)
    (x : ∀ a h', Led h₀ h' chg ((a, o) :: news) → wpAny (model prog w) A (k a) Q E ⟨h', g, d, t, os⟩) : wpAny (model prog w) A (.alloc o k) Q E ⟨h, g, d, t, os⟩ :=
  wpAny_bind (m := alloc o) (f := k) (wpAny_alloc (x _ _ (D.alloc hf)))
theorem s_update {a : Addr} {q : Option Value} {f : Obj → Obj} {k : Unit → Sem α} {o : Obj} {i : Nat} (D : Led h₀ h chg news) (hi : news[i]? = some (a, o)) (hf : (f o).isFreed = false)
    (x : ∀ h', Led h₀ h' chg (news.set i (a, f o)) → wpAny (model prog w) A (k ()) Q E ⟨h', g, d, t, os⟩) : wpAny (model prog w) A (.update a q f k) Q E ⟨h, g, d, t, os⟩ :=
  wpAny_bind (m := updatePart a q f) (f := k) (wpAny_updatePart (D.at i a o hi) (x _ (D.update hi hf)))
theorem s_stack {k : List (Code × Pos) → Sem α} {s : Shared} (x : ∀ st, Lies A st → wpAny (model prog w) A (k st) Q E s) : wpAny (model prog w) A (.stack k) Q E s :=
  fun Γ p hΓ => x _ (lies_of hΓ) Γ p hΓ
theorem s_pure {a : α} {s : Shared} (x : Q a s) : wpAny (model prog w) A (Sem.pure a) Q E s := wpAny_pure x
theorem s_call {c : Code} {hd : Option Value} {gd : Bool} {l : List Value} {k : Result → Sem α} {s : Shared} (hnb : hd ≠ some byPass)
    (x : codeAny (model prog w) (A.mark hd) c (fun r s' => wpAny (model prog w) A (k r) Q E s') s) : wpAny (model prog w) A (.call c hd gd l k) Q E s := x_call x hnb
theorem s_code {c : Code} {R : Result → Shared → Prop} {s : Shared} (x : wpAny (model prog w) (A.under c) (denote table c) (finP prog w A R) (fun e s' => R (.error e) s') s) :
    codeAny (model prog w) A c R s := codeAny_of_tree (wpAny_mono x (fun fin s' h => by cases fin <;> exact h) fun _ _ h => h)
/-- an Around that asks less -/
theorem s_weak {B : Around} {tr : Sem α} {s : Shared} (x : wpAny (model prog w) B tr Q E s) (h1 : A.handled = B.handled) (h2 : A.depth ≤ B.depth) (h3 : B.frames = none) (h4 : B.guards = none) (h5 : A.units ≤ B.units) :
    wpAny (model prog w) A tr Q E s :=
  fun Γ p hΓ => x Γ p ⟨hΓ.1.trans h1, Nat.le_trans hΓ.2.1 h2, (by rw [h3]; nofun), (by rw [h4]; nofun), Nat.le_trans hΓ.2.2.2.2 h5⟩
end
theorem s_bindR {α β : Type} {A : Around} {prog : Program} {w : World} {E : Value → Shared → Prop} {s : Shared} {m : Sem α} {f : α → Sem β} {Q : β → Shared → Prop} (x : wpAny (model prog w) A m (fun a s' => wpAny (model prog w) A (f a) Q E s') E s) :
    wpAny (model prog w) A (R.bindR m f) Q E s := by rw [← R.bindR_eq]; exact wpAny_bind x
theorem s_catchR {α : Type} {A : Around} {prog : Program} {w : World} {E : Value → Shared → Prop} {s : Shared} {m : Sem α} {k : Value → Sem α} {Q : α → Shared → Prop} (x : wpAny (model prog w) A m Q (fun e s' => wpAny (model prog w) A (k e) Q E s') s) :
    wpAny (model prog w) A (R.catchR m k) Q E s := by rw [← R.catchR_eq]; exact wpAny_tryCatch x
theorem s_onRaiseR {α : Type} {A : Around} {prog : Program} {w : World} {E : Value → Shared → Prop} {s : Shared} {m : Sem α} {k : Value → Sem Unit} {Q : α → Shared → Prop} (x : wpAny (model prog w) A m Q (fun e s' => wpAny (model prog w) A (k e) (fun _ s'' => E e s'') E s') s) :
    wpAny (model prog w) A (R.onRaiseR m k) Q E s := by rw [← R.onRaiseR_eq]; exact wpAny_onRaise x
theorem s_keepR {α : Type} {A : Around} {prog : Program} {w : World} {E : Value → Shared → Prop} {s : Shared} {vs : List Value} {m : Sem α} {Q : α → Shared → Prop} (x : wpAny (model prog w) A m Q E s) :
    wpAny (model prog w) A (R.keepR vs m) Q E s := by
  rw [← R.keepR_eq]
  intro Γ p hΓ
  rw [Sem.wp_keep]
  exact x Γ p hΓ
theorem e_near {A : Around} {st : List (Code × Pos)} (l : Lies A st) (hd : A.depth < recursionLimit) : nearF st = fun own limit => Bool.rec (nearF st own limit) false (Nat.beq limit recursionLimit) := by
  funext own limit
  cases e : Nat.beq limit recursionLimit with
  | false => rfl
  | true => obtain rfl := Nat.eq_of_beq_eq_true e; exact l.near' hd own
theorem e_over {A : Around} {st : List (Code × Pos)} (l : Lies A st) (hd : A.depth < recursionLimit) : overF st = fun own limit => Bool.rec (overF st own limit) false (Nat.beq limit recursionLimit) := by
  funext own limit
  cases e : Nat.beq limit recursionLimit with
  | false => rfl
  | true => obtain rfl := Nat.eq_of_beq_eq_true e; exact l.over hd own
theorem e_warm {A : Around} {st : List (Code × Pos)} (l : Lies A st) (hd : A.depth < recursionLimit) : warmF st = fun own limit => Bool.rec (warmF st own limit) false (Nat.beq limit recursionLimit) := by
  funext own limit
  cases e : Nat.beq limit recursionLimit with
  | false => rfl
  | true => obtain rfl := Nat.eq_of_beq_eq_true e; exact l.warm hd own
theorem e_room {A : Around} {st : List (Code × Pos)} (l : Lies A st) (hu : A.units < cLine) : roomF st = false := l.room hu
theorem s_again {A : Around} {prog : Program} {w : World} {R : Result → Shared → Prop} {s : Shared} {c : Code} (hq : c.quiet = true) (x : codeAny (model prog w) A c R s) : finP prog w A R (.again c) s := ⟨hq, x⟩
theorem s_done {A : Around} {prog : Program} {w : World} {R : Result → Shared → Prop} {s : Shared} {f : Flow} (x : R (.ok f) s) : finP prog w A R (.done f) s := x
theorem s_againB {A : Around} {prog : Program} {w : World} {R : Result → Shared → Prop} {s : Shared} {id id' : String} {args : Args} (e : id = id') (hq : (Code.builtin id' args).quiet = true) (x : codeAny (model prog w) A (.builtin id' args) R s) :
    finP prog w A R (.again (.builtin id args)) s := by subst e; exact ⟨hq, x⟩
theorem s_callB {α : Type} {A : Around} {prog : Program} {w : World} {E : Value → Shared → Prop} {Q : α → Shared → Prop} {id id' : String} {args : Args} {hd : Option Value} {gd : Bool} {l : List Value} {k : Result → Sem α} {s : Shared} (e : id = id') (hnb : hd ≠ some byPass)
    (x : codeAny (model prog w) (A.mark hd) (.builtin id' args) (fun r s' => wpAny (model prog w) A (k r) Q E s') s) : wpAny (model prog w) A (.call (.builtin id args) hd gd l k) Q E s := by subst e; exact x_call x hnb
end
end Mine
namespace Mine
section
open PySem PySem.W PySem.W.X PyProof.Rows PySem.Spec PySem.Calls
set_option maxRecDepth 100000
set_option maxHeartbeats 0
set_option linter.unusedVariables false
set_option linter.unusedSimpArgs false
noncomputable def Az (n : Nat) : Around := { depth := 310 + 2 * n, units := 10 + 10 * n }
noncomputable abbrev zden (c : Code) : Sem PySem.Fin := ZFast.zw11892475500146522536 ZFast.tableZ c
theorem zden_eq (c : Code) : denote table c = zden c := by rw [ZFast.tableZ_eq, ZFast.ze11892475500146522536]
noncomputable def plainCode : Code → Bool
  | .call .. => true
  | .body .. => true
  | .func .. => true
  | _ => false
theorem plain_w {c : Code} (h : plainCode c = true) : c.weight ≤ 1 ∧ c.cUnits ≤ 9 := by
  cases c <;> first | exact absurd h Bool.false_ne_true | exact ⟨Nat.le_of_ble_eq_true rfl, Nat.le_of_ble_eq_true rfl⟩
section
variable {α : Type} {prog : Program} {w : World} {E : Value → Shared → Prop} {Q : α → Shared → Prop} {s : Shared} {n : Nat} {R : Result → Shared → Prop}
theorem s_kern {A : Around} {X : Sem α} {v : α} (e : skim ⟨prog, w.params⟩ 400 X = Sem.pure v) (x : Q v s) : wpAny (model prog w) A X Q E s := x_skim 400 (by rw [e]; exact s_pure x)
theorem s_codeG {c : Code} (h1 : c.weight ≤ 2) (h2 : c.cUnits ≤ 10) (x : wpAny (model prog w) (Az (n + 1)) (zden c) (finP prog w (Az n) R) (fun e s' => R (.error e) s') s) : codeAny (model prog w) (Az n) c R s := by
  refine s_code (s_weak (B := Az (n + 1)) (by rw [zden_eq]; exact x) rfl ?_ rfl rfl ?_)
  · simp only [Around.under, Az]; lia
  · simp only [Around.under, Az]; lia
theorem s_codeN {c : Code} (hc : plainCode c = true) (x : wpAny (model prog w) (Az (n + 1)) (zden c) (finP prog w (Az n) R) (fun e s' => R (.error e) s') s) : codeAny (model prog w) (Az n) c R s := by
  refine s_code (s_weak (B := Az (n + 1)) (by rw [zden_eq]; exact x) rfl ?_ rfl rfl ?_)
  · have := (plain_w hc).1; simp only [Around.under, Az]; lia
  · have := (plain_w hc).2; simp only [Around.under, Az]; lia
theorem s_codeB {id : String} {args : Args} (hp : plainId id = true) (x : wpAny (model prog w) (Az (n + 1)) (zden (.builtin id args)) (finP prog w (Az n) R) (fun e s' => R (.error e) s') s) : codeAny (model prog w) (Az n) (.builtin id args) R s := by
  refine s_code (s_weak (B := Az (n + 1)) (by rw [zden_eq]; exact x) rfl ?_ rfl rfl ?_)
  · have := plainId_weight hp args; simp only [Around.under, Az]; lia
  · have := plainId_units hp args; simp only [Around.under, Az]; lia
theorem tcall_g : guardIds.contains "type.__call__" = false := by decide +kernel
theorem tcall_w (args : Args) : (Code.builtin "type.__call__" args).weight ≤ 1 ∧ (Code.builtin "type.__call__" args).cUnits ≤ 9 := by
  have hf : (Code.builtin "type.__call__" args).frames = 0 := by
    unfold Code.frames
    split <;> first | rfl | simp_all [Code.isFrame]
  refine ⟨?_, ?_⟩
  · unfold Code.weight
    have hg : (Code.builtin "type.__call__" args).isGuard = false := tcall_g
    have hk : (Code.builtin "type.__call__" args).isCaller = false := by
      unfold Code.isCaller
      split <;> first | rfl | simp_all
    rw [hf, hg, hk]
    cases (Code.builtin "type.__call__" args).isCreation <;> simp
  · unfold Code.cUnits
    dsimp only
    rw [hf]; lia
theorem s_codeT {id : String} {args : Args} (e : id = "type.__call__") (x : wpAny (model prog w) (Az (n + 1)) (zden (.builtin id args)) (finP prog w (Az n) R) (fun e s' => R (.error e) s') s) : codeAny (model prog w) (Az n) (.builtin id args) R s :=
  s_codeG (by rw [e]; have := (tcall_w args).1; lia) (by rw [e]; have := (tcall_w args).2; lia) x
theorem s_callZ {c : Code} {gd : Bool} {l : List Value} {k : Result → Sem α}
    (x : codeAny (model prog w) (Az n) c (fun r s' => wpAny (model prog w) (Az n) (k r) Q E s') s) : wpAny (model prog w) (Az n) (.call c none gd l k) Q E s := x_call x nofun
theorem s_agB {id id' : String} {args : Args} (e : id = id') (hp : plainId id' = true) (x : wpAny (model prog w) (Az (n + 1)) (zden (.builtin id' args)) (finP prog w (Az n) R) (fun e s' => R (.error e) s') s) :
    finP prog w (Az n) R (.again (.builtin id args)) s := by subst e; exact ⟨plainId_quiet hp args, s_codeB hp x⟩
theorem s_agT {id id' : String} {args : Args} (e : id = id') (e' : id' = "type.__call__") (x : wpAny (model prog w) (Az (n + 1)) (zden (.builtin id' args)) (finP prog w (Az n) R) (fun e s' => R (.error e) s') s) :
    finP prog w (Az n) R (.again (.builtin id args)) s := by
  subst e
  exact ⟨Code.quiet_builtin _ (by rw [e']; decide +kernel), s_codeT e' x⟩
theorem s_agN {c : Code} (hq : c.quiet = true) (hc : plainCode c = true) (x : wpAny (model prog w) (Az (n + 1)) (zden c) (finP prog w (Az n) R) (fun e s' => R (.error e) s') s) :
    finP prog w (Az n) R (.again c) s := ⟨hq, s_codeN hc x⟩
theorem s_clB {id id' : String} {args : Args} {gd : Bool} {l : List Value} {k : Result → Sem α} (e : id = id') (hp : plainId id' = true)
    (x : wpAny (model prog w) (Az (n + 1)) (zden (.builtin id' args)) (finP prog w (Az n) (fun r s' => wpAny (model prog w) (Az n) (k r) Q E s')) (fun e s' => wpAny (model prog w) (Az n) (k (.error e)) Q E s') s) :
    wpAny (model prog w) (Az n) (.call (.builtin id args) none gd l k) Q E s := by subst e; exact s_callZ (s_codeB hp x)
theorem s_clN {c : Code} {gd : Bool} {l : List Value} {k : Result → Sem α} (hc : plainCode c = true)
    (x : wpAny (model prog w) (Az (n + 1)) (zden c) (finP prog w (Az n) (fun r s' => wpAny (model prog w) (Az n) (k r) Q E s')) (fun e s' => wpAny (model prog w) (Az n) (k (.error e)) Q E s') s) :
    wpAny (model prog w) (Az n) (.call c none gd l k) Q E s := s_callZ (s_codeN hc x)
theorem s_stackF {k : List (Code × Pos) → Sem α} (hn : n < 60) (x : ∀ st, nearF st = (fun own limit => Bool.rec (nearF st own limit) false (Nat.beq limit recursionLimit)) → overF st = (fun own limit => Bool.rec (overF st own limit) false (Nat.beq limit recursionLimit)) →
      warmF st = (fun own limit => Bool.rec (warmF st own limit) false (Nat.beq limit recursionLimit)) → roomF st = false → wpAny (model prog w) (Az n) (k st) Q E s) : wpAny (model prog w) (Az n) (.stack k) Q E s := by
  have hd : (Az n).depth < recursionLimit := by simp only [Az, recursionLimit]; lia
  have hu : (Az n).units < cLine := by simp only [Az, cLine]; lia
  exact s_stack fun st l => x st (e_near l hd) (e_over l hd) (e_warm l hd) (e_room l hu)
end
section
variable {α : Type} {prog : Program} {w : World} {A : Around} {E : Value → Shared → Prop} {Q : α → Shared → Prop} {s : Shared}
theorem s_rule {t : String} {k : Unit → Sem α} (x : wpAny (model prog w) A (k ()) Q E s) : wpAny (model prog w) A (.rule t k) Q E s := fun Γ p hΓ => x Γ p hΓ
theorem s_at {q : Pos} {k : Unit → Sem α} (x : wpAny (model prog w) A (k ()) Q E s) : wpAny (model prog w) A (.at q k) Q E s := fun Γ _ hΓ => x Γ q hΓ
theorem s_point {l : List Value} {k : Unit → Sem α} (x : wpAny (model prog w) A (k ()) Q E s) : wpAny (model prog w) A (.point l k) Q E s := fun Γ p hΓ => x Γ p hΓ
theorem s_ask {k : Setting → Sem α} (x : wpAny (model prog w) A (k ⟨prog, w.params⟩) Q E s) : wpAny (model prog w) A (.ask k) Q E s := fun Γ p hΓ => x Γ p hΓ
end
theorem s_condT {α : Type} {prog : Program} {w : World} {A : Around} {E : Value → Shared → Prop} {Q : α → Shared → Prop} {s : Shared} {b : Bool} {t e : Sem α} (hb : b = true) (x : wpAny (model prog w) A t Q E s) : wpAny (model prog w) A (condFn (Sem α) b t e) Q E s := by subst hb; exact x
theorem s_condF {α : Type} {prog : Program} {w : World} {A : Around} {E : Value → Shared → Prop} {Q : α → Shared → Prop} {s : Shared} {b : Bool} {t e : Sem α} (hb : b = false) (x : wpAny (model prog w) A e Q E s) : wpAny (model prog w) A (condFn (Sem α) b t e) Q E s := by subst hb; exact x
theorem fl_two {p : Value → Bool} {u v : Value} (h1 : p u = false) (h2 : p v = true) : R.filterR p [u, v] = [v] := by
  rw [← R.filterR_eq]
  simp [List.filter, h1, h2]
end
end Mine
namespace Mine
section
open PySem PySem.W PySem.W.X PyProof.Rows PySem.Spec PySem.Calls
set_option maxRecDepth 100000
set_option maxHeartbeats 0
set_option linter.unusedVariables false
set_option linter.unusedSimpArgs false
noncomputable def KF (P : Params) : Frag := hd.heap_39 P
theorem kf110 (P : Params) : ∃ o, (KF P).lookup 110 = some o := ⟨_, rfl⟩
theorem kf16 (P : Params) : (KF P).lookup 16 = none := rfl
theorem kf107 (P : Params) : (KF P).lookup 107 = none := rfl
theorem Led.keep16 {h₀ h : Heap} {news : List (Addr × Obj)} {o : Obj} (D : Led h₀ h [(16, o)] news) : ∀ b o', b ≠ 16 → h₀.get? b = some o' → h.get? b = some o' := fun a o' hne e => by
  refine D.keep a o' e ?_
  have : away [(16, o)] a = true := by
    show (!(Nat.beq 16 a) && true) = true
    cases q : Nat.beq 16 a with
    | false => rfl
    | true => exact absurd (Nat.eq_of_beq_eq_true q).symm hne
  rw [this, Bool.or_true]
theorem Led.frag {K : Frag} {h₀ h : Heap} {news : List (Addr × Obj)} {o : Obj} (D : Led h₀ h [(16, o)] news) (X : K.In h₀) (h16 : K.lookup 16 = none) : K.In h := fun a o' e =>
  D.keep16 a o' (fun q => by rw [q, h16] at e; cases e) (X a o' e)
theorem nsIn_Ns {K : Frag} {h : Heap} {a : Addr} {c : Value} {d : Option Addr} {es : Array DictEntry} {n : Nat} {sl : Array (Option Value)} (X : K.In h) (e : K.lookup a = some ⟨c, d, .dict es n, sl⟩) (hk : StrKeys es) : h.Ns a (nsFind es) :=
  ⟨_, es, n, X _ _ e, rfl, hk, fun _ => rfl⟩
noncomputable def strKey (e : DictEntry) : Bool := match e.key with | .str _ _ => true | _ => false
theorem strKeys_of {es : Array DictEntry} (h : es.toList.all strKey = true) : StrKeys es := fun e he => by
  have q := List.all_eq_true.mp h e (Array.mem_toList_iff.mpr he)
  unfold strKey at q
  split at q
  · rename_i n t hk; exact ⟨n, t, hk⟩
  · cases q
theorem kf_globals {w : World} {h : Heap} (X : (KF w.params).In h) : ∃ mg, h.Ns 3 mg ∧ mg (Str.ofString "object") = none :=
  ⟨_, nsIn_Ns X rfl (strKeys_of (by kernel_rfl)), by kernel_rfl⟩
end
end Mine
namespace Mine
section
open PySem PySem.W PySem.W.X PyProof.Rows PySem.Spec PySem.Calls
set_option maxRecDepth 100000
set_option maxHeartbeats 0
set_option linter.unusedVariables false
set_option linter.unusedSimpArgs false
section
variable {M : Model} {A : Around} {E : Value → Shared → Prop} {s : Shared}
theorem evalArgs_one {f : Value} {x : Sem Value} {Q : Args → Shared → Prop}
    (h : wpAny M A x (fun v s' => Q ⟨[v], []⟩ s') E s) : wpAny M A (evalArgs f false [(false, x)] []) Q E s := by
  unfold evalArgs
  show wpAny M A (spliced [(false, x)] >>= _) Q E s
  refine wpAny_bind (spliced_cons (wpAny_mono h (fun v s' h' => spliced_nil ?_) fun _ _ x => x))
  refine wpAny_holding ?_
  exact wpAny_bind (wpAny_pure (wpAny_bind (wpAny_pure (wpAny_pure h'))))
theorem cls_stmt {name bind : Str} {p1 pos : Pos} {body : List Stmt} {scope : Scope} {ts : Option Scope} {statics : List Str} {env : Env} {mg mb : Str → Option Value} {Q : Flow → Shared → Prop}
    (hk : env.scope.kind = .function) (hx : env.kindOf (Str.ofString "object") = some .globalImplicit) (hg : s.heap.Ns env.globals mg) (hgo : mg (Str.ofString "object") = none)
    (hb : s.heap.Ns env.builtins mb) (ho : mb (Str.ofString "object") = some (.type "object")) (hbc : mb (Str.ofString "__build_class__") = some (.builtin "__build_class__"))
    (x : wpAny M A (buildClass name (qualnameIn env name bind) [.type "object"] [] body scope statics pos.line env pos none) (fun c s' => wpAny M A (bindName env bind c) (fun _ => Q .next) E s') E s) :
    wpAny M A (exec (.ClassDef name [.Name (Str.ofString "object") p1] [] body [] [] scope ts bind statics pos) env) Q E s := by
  rw [arm_exec_ClassDef]
  refine wpAny_bind (m := evalAll (evalEach [] env)) (wpAny_pure ?_)
  refine wpAny_bind (wpAny_standAt ?_)
  refine wpAny_bind ?_
  · unfold buildClassGuard
    refine wpAny_bind (wpAny_nsGet hb ?_)
    rw [show mb "__build_class__" = some (.builtin "__build_class__") from hbc]
    refine wpAny_pure ?_
    refine wpAny_bind (wpAny_holding ?_)
    refine wpAny_bind (evalArgs_one (Name_function_global hk hx (loadGlobal_builtin hg hgo hb ho ?_)))
    refine wpAny_bind (wpAny_standAt ?_)
    refine wpAny_holding (wpAny_mono x (fun c s' hc => ?_) fun _ _ e => e)
    refine wpAny_bind (wpAny_pure ?_)
    refine wpAny_bind (wpAny_standAt ?_)
    exact wpAny_bind (wpAny_mono hc (fun _ _ q => wpAny_pure q) fun _ _ e => e)
theorem cls_stmtZ {b rest : List Stmt} {env₀ : Env} {name bind : Str} {p1 pos : Pos} {body : List Stmt} {scope : Scope} {ts : Option Scope} {statics : List Str} {env : Env} {qual : Str} {ln : Nat} {mg mb : Str → Option Value} {Q : Flow → Shared → Prop}
    (eb : b = .ClassDef name [.Name (Str.ofString "object") p1] [] body [] [] scope ts bind statics pos :: rest) (ee : env₀ = env) (eq : qualnameIn env name bind = qual) (el : pos.line = ln)
    (hk : env.scope.kind = .function) (hx : env.kindOf (Str.ofString "object") = some .globalImplicit) (hg : s.heap.Ns env.globals mg) (hgo : mg (Str.ofString "object") = none)
    (hb : s.heap.Ns env.builtins mb) (ho : mb (Str.ofString "object") = some (.type "object")) (hbc : mb (Str.ofString "__build_class__") = some (.builtin "__build_class__"))
    (x : wpAny M A (ZFast.zw1785580099245652887 name qual [.type "object"] [] body scope statics ln env pos none) (fun c s' => wpAny M A (ZFast.zw7536695828754713326 env bind c) (fun _ s'' => wpAny M A (ZFast.zw12563942051412417395 rest env) Q E s'') E s') E s) :
    wpAny M A (ZFast.zw12563942051412417395 b env₀) Q E s := by
  subst eb; subst ee; subst eq; subst el
  rw [← ZFast.ze12563942051412417395] at x ⊢
  rw [← ZFast.ze1785580099245652887] at x
  refine wpAny_execs_cons (cls_stmt hk hx hg hgo hb ho hbc (wpAny_mono x (fun c s' hc => ?_) fun _ _ e => e))
  rw [← ZFast.ze7536695828754713326] at hc
  exact hc
noncomputable def cmpDef : Stmt := Challenge.pw_mg0016_01.main.body.getD 1 (.Pass ⟨0, 0, 0, 0⟩)
noncomputable def nilScope : Scope := { kind := .function, names := [], isGenerator := false, isCoroutine := false }
noncomputable def cBody : List Stmt := match cmpDef with | .FunctionDef _ _ b _ _ _ _ _ _ _ => b | _ => []
noncomputable def cScope : Scope := match cmpDef with | .FunctionDef _ _ _ _ _ _ sc _ _ _ => sc | _ => nilScope
noncomputable def kSt0 : Stmt := cBody.getD 0 (.Pass ⟨0, 0, 0, 0⟩)
noncomputable def kBody : List Stmt := match kSt0 with | .ClassDef _ _ _ b _ _ _ _ _ _ _ => b | _ => []
noncomputable def kScope : Scope := match kSt0 with | .ClassDef _ _ _ _ _ _ sc _ _ _ _ => sc | _ => nilScope
noncomputable def kStat : List Str := match kSt0 with | .ClassDef _ _ _ _ _ _ _ _ _ st _ => st | _ => []
noncomputable def kPos : Pos := match kSt0 with | .ClassDef _ _ _ _ _ _ _ _ _ _ p => p | _ => ⟨0, 0, 0, 0⟩
noncomputable def kSt (i : Nat) : Stmt := kBody.getD i (.Pass ⟨0, 0, 0, 0⟩)
noncomputable def cRest : List Stmt := cBody.drop 1
noncomputable def envC (L c : Nat) : Env := { scope := cScope, locals := L + 111, globals := 3, cells := [(Str.ofString "mycmp", c + 111)], qual := Str.ofString "cmp_to_key.<locals>.", func := some 21, code := .ref 20, frame := some (L + 111), builtins := 0 }
end
end
end Mine
namespace Mine
section
open PySem PySem.W PySem.W.X PyProof.Rows PySem.Spec PySem.Calls
set_option maxRecDepth 100000
set_option maxHeartbeats 0
set_option linter.unusedVariables false
set_option linter.unusedSimpArgs false
noncomputable def LP (h₀ : Heap) (chg news : List (Addr × Obj)) (z k : Nat) : Type := { h : Heap // Led h₀ h chg news ∧ h.objs.size = z + k }
noncomputable def LP.hp {h₀ : Heap} {chg news : List (Addr × Obj)} {z k : Nat} (X : LP h₀ chg news z k) : Heap := X.1
theorem LP.at {h₀ : Heap} {chg news : List (Addr × Obj)} {z k : Nat} (X : LP h₀ chg news z k) (i : Nat) (a : Addr) (o : Obj) (hi : news[i]? = some (a, o)) : X.hp.get? a = some o := X.2.1.at i a o hi
theorem LP.atC {h₀ : Heap} {chg news : List (Addr × Obj)} {z k : Nat} (X : LP h₀ chg news z k) (i : Nat) (a : Addr) (o : Obj) (hi : chg[i]? = some (a, o)) : X.hp.get? a = some o := X.2.1.atC i a o hi
theorem LP.old {h₀ : Heap} {chg news : List (Addr × Obj)} {z k : Nat} (X : LP h₀ chg news z k) (a : Addr) (o : Obj) (e : h₀.get? a = some o) (q : (hasCls o || away chg a) = true) : X.hp.get? a = some o := X.2.1.old a o e q
noncomputable def LP.push {h₀ : Heap} {chg news : List (Addr × Obj)} {z k : Nat} (X : LP h₀ chg news z k) (o : Obj) (hf : o.isFreed = false) (k' : Nat) (hk : k + 1 = k') : LP h₀ chg ((z + k, o) :: news) z k' :=
  ⟨X.1.push o, by have D := X.2.1.alloc hf; rw [X.2.2] at D; exact D, by rw [size_push', X.2.2, ← hk]; rfl⟩
noncomputable def LP.upd {h₀ : Heap} {chg news : List (Addr × Obj)} {z k : Nat} (X : LP h₀ chg news z k) (i : Nat) (a : Addr) (o : Obj) (f : Obj → Obj) (hi : news[i]? = some (a, o)) (hf : (f o).isFreed = false) (news' : List (Addr × Obj)) (hs : news.set i (a, f o) = news') : LP h₀ chg news' z k :=
  ⟨X.1.update a f, by have D := X.2.1.update hi hf; rw [hs] at D; exact D, by rw [Heap.size_update]; exact X.2.2⟩
noncomputable abbrev ap {α β : Type} (f : α → β) (a : α) : β := f a
theorem l_load {α : Type} {prog : Program} {w : World} {E : Value → Shared → Prop} {Q : α → Shared → Prop} {h : Heap} {g : Array GenState} {d : Drawn} {t : Nat} {os : OsState} {A : Around} {a : Addr} {q : Option Value} {k : Obj → Sem α} {o : Obj} (ho : h.get? a = some o) (x : wpAny (model prog w) A (ap k o) Q E ⟨h, g, d, t, os⟩) :
    wpAny (model prog w) A (.load a q k) Q E ⟨h, g, d, t, os⟩ := x_load ho x
theorem l_fresh {α : Type} {prog : Program} {w : World} {E : Value → Shared → Prop} {Q : α → Shared → Prop} {h : Heap} {g : Array GenState} {d : Drawn} {t : Nat} {os : OsState} {A : Around} {k : Tok → Sem α} (x : wpAny (model prog w) A (ap k t) Q E ⟨h, g, d, t + 1, os⟩) : wpAny (model prog w) A (.fresh k) Q E ⟨h, g, d, t, os⟩ := x_fresh x
theorem l_alloc {α : Type} {prog : Program} {w : World} {E : Value → Shared → Prop} {Q : α → Shared → Prop} {h₀ : Heap} {g : Array GenState} {d : Drawn} {t : Nat} {os : OsState} {chg news : List (Addr × Obj)} {z k : Nat} {A : Around} {o : Obj} {c : Addr → Sem α} {X : LP h₀ chg news z k} (hf : o.isFreed = false) (k' : Nat) (hk : k + 1 = k')
    (x : wpAny (model prog w) A (ap c (z + k)) Q E ⟨(X.push o hf k' hk).hp, g, d, t, os⟩) : wpAny (model prog w) A (.alloc o c) Q E ⟨X.hp, g, d, t, os⟩ := by
  refine wpAny_bind (m := alloc o) (f := c) (wpAny_alloc ?_)
  show wpAny (model prog w) A (c X.1.objs.size) Q E ⟨X.1.push o, g, d, t, os⟩
  rw [X.2.2]; exact x
theorem l_update {α : Type} {prog : Program} {w : World} {E : Value → Shared → Prop} {Q : α → Shared → Prop} {h₀ : Heap} {g : Array GenState} {d : Drawn} {t : Nat} {os : OsState} {chg news : List (Addr × Obj)} {z k : Nat} {A : Around} {a : Addr} {q : Option Value} {f : Obj → Obj} {c : Unit → Sem α} {o : Obj} {X : LP h₀ chg news z k} {news' : List (Addr × Obj)} (i : Nat)
    (hi : news[i]? = some (a, o)) (hf : (f o).isFreed = false) (hs : news.set i (a, f o) = news')
    (x : wpAny (model prog w) A (ap c ()) Q E ⟨(X.upd i a o f hi hf news' hs).hp, g, d, t, os⟩) : wpAny (model prog w) A (.update a q f c) Q E ⟨X.hp, g, d, t, os⟩ :=
  wpAny_bind (m := updatePart a q f) (f := c) (wpAny_updatePart (X.2.1.at i a o hi) x)
theorem l_openF {prog : Program} {w : World} {A : Around} {R : Result → Shared → Prop} {F : PySem.Fin} {h₀ : Heap} {g : Array GenState} {d : Drawn} {t : Nat} {os : OsState} {chg news : List (Addr × Obj)} {z k : Nat} {X : LP h₀ chg news z k} (x : ∀ h, Led h₀ h chg news → finP prog w A R F ⟨h, g, d, t, os⟩) : finP prog w A R F ⟨X.hp, g, d, t, os⟩ := x _ X.2.1
theorem l_open {α : Type} {prog : Program} {w : World} {E : Value → Shared → Prop} {Q : α → Shared → Prop} {A : Around} {c : Sem α} {h₀ : Heap} {g : Array GenState} {d : Drawn} {t : Nat} {os : OsState} {chg news : List (Addr × Obj)} {z k : Nat} {X : LP h₀ chg news z k} (x : ∀ h, Led h₀ h chg news → wpAny (model prog w) A c Q E ⟨h, g, d, t, os⟩) : wpAny (model prog w) A c Q E ⟨X.hp, g, d, t, os⟩ := x _ X.2.1
theorem LP.ofLed {h₀ h : Heap} {chg news : List (Addr × Obj)} {o₁ : Obj} (D : Led h₀ h chg news) (h1 : h₀.get? 110 = some o₁) : ∃ (z : Nat) (X : LP h₀ chg news z 111), X.hp = h := by
  obtain ⟨o', e⟩ := D.there' h1
  have hlt : (110 : Nat) < h.objs.size := Heap.lt_size e
  exact ⟨h.objs.size - 111, ⟨h, D, (Nat.sub_add_cancel hlt).symm⟩, rfl⟩
theorem LP.start {h : Heap} {o₁ : Obj} (h1 : h.get? 110 = some o₁) : ∃ z, h.objs.size = z + 111 ∧ ∃ X : LP h [] [] z 111, X.hp = h := by
  have hlt : (110 : Nat) < h.objs.size := Heap.lt_size h1
  have e := (Nat.sub_add_cancel hlt).symm
  exact ⟨h.objs.size - 111, e, ⟨h, Led.start h, e⟩, rfl⟩
noncomputable def LP.cast {h₀ : Heap} {chg news : List (Addr × Obj)} {z k : Nat} (X : LP h₀ chg news z k) (news' : List (Addr × Obj)) (e : news = news') : LP h₀ chg news' z k := ⟨X.1, by rw [← e]; exact X.2⟩
theorem l_norm {α : Type} {prog : Program} {w : World} {E : Value → Shared → Prop} {Q : α → Shared → Prop} {A : Around} {c : Sem α} {h₀ : Heap} {g : Array GenState} {d : Drawn} {t : Nat} {os : OsState} {chg news : List (Addr × Obj)} {z k : Nat} {X : LP h₀ chg news z k} (news' : List (Addr × Obj)) (e : news = news') (x : wpAny (model prog w) A c Q E ⟨(X.cast news' e).hp, g, d, t, os⟩) : wpAny (model prog w) A c Q E ⟨X.hp, g, d, t, os⟩ := x
theorem l_normF {prog : Program} {w : World} {A : Around} {R : Result → Shared → Prop} {F : PySem.Fin} {h₀ : Heap} {g : Array GenState} {d : Drawn} {t : Nat} {os : OsState} {chg news : List (Addr × Obj)} {z k : Nat} {X : LP h₀ chg news z k} (news' : List (Addr × Obj)) (e : news = news') (x : finP prog w A R F ⟨(X.cast news' e).hp, g, d, t, os⟩) : finP prog w A R F ⟨X.hp, g, d, t, os⟩ := x
theorem l_openR {β : Type} {R : β → Shared → Prop} {r : β} {h₀ : Heap} {g : Array GenState} {d : Drawn} {t : Nat} {os : OsState} {chg news : List (Addr × Obj)} {z k : Nat} {X : LP h₀ chg news z k} (x : ∀ h, Led h₀ h chg news → R r ⟨h, g, d, t, os⟩) : R r ⟨X.hp, g, d, t, os⟩ := x _ X.2.1
theorem LP.keeps {h₀ : Heap} {news : List (Addr × Obj)} {z k : Nat} (X : LP h₀ [] news z k) (b : Addr) (o : Obj) (e : h₀.get? b = some o) : X.hp.get? b = some o := X.2.1.keeps b o e
noncomputable def LP.grow {h₀ : Heap} {chg news : List (Addr × Obj)} {z k : Nat} (X : LP h₀ chg news z k) {a c : Addr} {f : Obj → Obj} {oc : Obj} {vs ps more : Array Value}
    (e : h₀.get? c = some oc) (ho : oc = { oc with cls := .type "code", data := .fields vs }) (hv : vs[11]? = some (.ref a)) (e' : h₀.get? a = some (tableObj ps)) (hw : away chg a = true) (hn : f (tableObj ps) = tableObj (ps ++ more)) : LP h₀ ((a, tableObj (ps ++ more)) :: chg) news z k :=
  ⟨X.1.update a f, X.2.1.grow (table_at e ho hv e' rfl) hw hn, by rw [Heap.size_update]; exact X.2.2⟩
theorem l_grow {α : Type} {prog : Program} {w : World} {E : Value → Shared → Prop} {Q : α → Shared → Prop} {h₀ : Heap} {g : Array GenState} {d : Drawn} {t : Nat} {os : OsState} {chg news : List (Addr × Obj)} {z n : Nat} {A : Around} {a c : Addr} {q : Option Value} {f : Obj → Obj} {k : Unit → Sem α} {oc : Obj} {vs ps more : Array Value} {X : LP h₀ chg news z n}
    (e : h₀.get? c = some oc) (ho : oc = { oc with cls := .type "code", data := .fields vs }) (hv : vs[11]? = some (.ref a)) (e' : h₀.get? a = some (tableObj ps)) (hw : away chg a = true) (hn : f (tableObj ps) = tableObj (ps ++ more))
    (x : wpAny (model prog w) A (ap k ()) Q E ⟨(X.grow e ho hv e' hw hn).hp, g, d, t, os⟩) : wpAny (model prog w) A (.update a q f k) Q E ⟨X.hp, g, d, t, os⟩ :=
  wpAny_bind (m := updatePart a q f) (f := k) (wpAny_updatePart (X.2.1.keep a _ (table_at e ho hv e' rfl).2 (by rw [hw, Bool.or_true])) x)
theorem l_join {β : Type} {R : β → Shared → Prop} {r : β} {h₀ h h₂ : Heap} {g : Array GenState} {d : Drawn} {t : Nat} {os : OsState} {chg news news₂ : List (Addr × Obj)} {o₁ : Obj} (D : Led h₀ h chg news) (D₂ : Led h h₂ [] news₂) (h1 : h₀.get? 110 = some o₁) (news₃ : List (Addr × Obj)) (e : news₂ ++ news = news₃)
    (x : ∀ (z : Nat) (Y : LP h₀ chg news₃ z 111), R r ⟨Y.hp, g, d, t, os⟩) : R r ⟨h₂, g, d, t, os⟩ := by
  subst e
  obtain ⟨z, Y, rfl⟩ := LP.ofLed (D.trans D₂) h1
  exact x z Y
local macro_rules | `(tactic| walk_at "objL") => `(tactic| first
    | exact LP.at _ 0 _ _ rfl
    | exact LP.at _ 1 _ _ rfl
    | exact LP.at _ 2 _ _ rfl
    | exact LP.at _ 3 _ _ rfl
    | exact LP.at _ 4 _ _ rfl
    | exact LP.at _ 5 _ _ rfl
    | exact LP.at _ 9 _ _ rfl
    | exact LP.at _ 10 _ _ rfl
    | exact LP.at _ 11 _ _ rfl
    | exact LP.at _ 12 _ _ rfl
    | exact LP.at _ 17 _ _ rfl
    | exact LP.at _ 18 _ _ rfl
    | exact LP.at _ 19 _ _ rfl
    | exact LP.at _ 20 _ _ rfl
    | exact LP.at _ 25 _ _ rfl
    | exact LP.at _ 26 _ _ rfl
    | exact LP.at _ 27 _ _ rfl
    | exact LP.at _ 28 _ _ rfl
    | exact LP.at _ 33 _ _ rfl
    | exact LP.at _ 34 _ _ rfl
    | exact LP.at _ 35 _ _ rfl
    | exact LP.at _ 36 _ _ rfl
    | exact LP.at _ 41 _ _ rfl
    | exact LP.at _ 42 _ _ rfl
    | exact LP.at _ 43 _ _ rfl
    | exact LP.at _ 44 _ _ rfl
    | exact LP.at _ 49 _ _ rfl
    | exact LP.at _ 52 _ _ rfl
    | exact LP.at _ 53 _ _ rfl
    | exact LP.at _ 63 _ _ rfl
    | exact LP.atC _ 0 _ _ rfl
    | exact LP.old _ _ _ (‹Frag.In _ _› _ _ rfl) rfl
    | exact LP.old _ _ _ (by assumption) rfl)
local macro_rules | `(tactic| walk_at "st") => `(tactic| dsimp only [List.set])
local macro_rules | `(tactic| walk_at "updL") => `(tactic| first
    | refine l_update 0 rfl rfl (by walk_at "st") ?_
    | refine l_update 1 rfl rfl (by walk_at "st") ?_
    | refine l_update 2 rfl rfl (by walk_at "st") ?_
    | refine l_update 4 rfl rfl (by walk_at "st") ?_
    | refine l_update 5 rfl rfl (by walk_at "st") ?_
    | refine l_update 9 rfl rfl (by walk_at "st") ?_
    | refine l_update 12 rfl rfl (by walk_at "st") ?_
    | refine l_update 17 rfl rfl (by walk_at "st") ?_
    | refine l_update 20 rfl rfl (by walk_at "st") ?_
    | refine l_update 25 rfl rfl (by walk_at "st") ?_
    | refine l_update 28 rfl rfl (by walk_at "st") ?_
    | refine l_update 33 rfl rfl (by walk_at "st") ?_
    | refine l_update 36 rfl rfl (by walk_at "st") ?_
    | refine l_update 41 rfl rfl (by walk_at "st") ?_
    | refine l_update 44 rfl rfl (by walk_at "st") ?_
    | refine l_update 49 rfl rfl (by walk_at "st") ?_
    | refine l_update 52 rfl rfl (by walk_at "st") ?_
    | refine l_update 53 rfl rfl (by walk_at "st") ?_
    | refine l_update 63 rfl rfl (by walk_at "st") ?_)
local macro_rules | `(tactic| walk_at "xl") => `(tactic| first
  | ((with_reducible show wpAny _ _ (Sem.load _ _ _) _ _ _); (try conv => arg 3; arg 1; dsimp only); refine l_load (by walk_at "objL") ?_)
  | refine l_fresh ?_
  | ((with_reducible show wpAny _ _ (Sem.alloc _ _) _ _ _); refine l_alloc rfl _ (by dsimp only [Nat.reduceAdd]) ?_)
  | ((with_reducible show wpAny _ _ (Sem.update _ _ _ _) _ _ _); (try conv => arg 3; arg 1; dsimp only); walk_at "updL")
  | refine s_pure ?_)
local macro_rules | `(tactic| walk_at "sL") => `(tactic| (refine x_skim 400 ?_; (conv => arg 3; whnf); walk_at "xl"))
local macro_rules | `(tactic| walk_at "saL") => `(tactic| (refine x_skim 400 ?_; (with_unfolding_all (conv => arg 3; whnf)); walk_at "xl"))
local macro_rules | `(tactic| walk_at "stkL") => `(tactic| (
  refine x_skim 400 ?_
  (conv => arg 3; whnf)
  first
  | (refine s_stackF (by omega) ?_; intro st' e1' e2' e3' e4'; (conv => arg 3; whnf); refine s_load (by walk_at "objL") ?_; rw [e1', e2', e3']; clear e1' e2' e3' e4')
  | (refine s_stackF (by omega) ?_; intro st' e1' e2' e3' e4'; rw [e4']; clear e1' e2' e3' e4')))
local macro_rules | `(tactic| walk_at "ags") => `(tactic| first
  | refine s_agB (id' := "type.__new__") (by decide +kernel) (by decide +kernel) ?_
  | refine s_agB (id' := "classmethod_descriptor.__get__") (by decide +kernel) (by decide +kernel) ?_
  | refine s_agB (id' := "list.__iadd__") (by decide +kernel) (by decide +kernel) ?_
  | refine s_agB (id' := "object.__init_subclass__") (by decide +kernel) (by decide +kernel) ?_
  | refine s_agB (id' := "super.__init__") (by decide +kernel) (by decide +kernel) ?_
  | refine s_agB (id' := "super.__new__") (by decide +kernel) (by decide +kernel) ?_
  | refine s_agB (id' := "type.__init__") (by decide +kernel) (by decide +kernel) ?_
  | refine s_agB (id' := "type.__getattribute__") (by decide +kernel) (by decide +kernel) ?_
  | refine s_agB (id' := "type.__prepare__") (by decide +kernel) (by decide +kernel) ?_)
local macro_rules | `(tactic| walk_at "agx") => `(tactic| first
  | walk_at "ags"
  | refine s_agB (id' := "super.__getattribute__") (by decide +kernel) (by decide +kernel) ?_)
local macro_rules | `(tactic| walk_at "ag") => `(tactic| first
  | refine s_agT (id' := "type.__call__") (by decide +kernel) rfl ?_
  | walk_at "agx")
local macro_rules | `(tactic| walk_at "fin0") => `(tactic| first
  | refine s_done ?_
  | refine s_agN rfl rfl ?_)
local macro_rules | `(tactic| walk_at "finB") => `(tactic| (with_reducible show finP _ _ _ _ (Fin.again (Code.builtin _ _)) _))
local macro_rules | `(tactic| walk_at "finx") => `(tactic| first
  | walk_at "fin0"
  | (walk_at "finB"; walk_at "ags"))
local macro_rules | `(tactic| walk_at "fin") => `(tactic| first
  | walk_at "fin0"
  | (walk_at "finB"; walk_at "ag"))
local macro_rules | `(tactic| walk_at "finy") => `(tactic| first
  | walk_at "fin0"
  | (walk_at "finB"; walk_at "agx"))
local macro_rules | `(tactic| walk_at "cb") => `(tactic| first
  | refine s_clB (id' := "proto.collect") (by decide +kernel) (by decide +kernel) ?_)
local macro_rules | `(tactic| walk_at "call") => `(tactic| (
  refine x_skim 400 ?_
  (conv => arg 3; whnf)
  first
  | refine s_clN rfl ?_
  | ((with_reducible show wpAny _ _ (Sem.call (Code.builtin _ _) _ _ _ _) _ _ _); walk_at "cb")))
local macro_rules | `(tactic| walk_at "goK") => `(tactic| first | walk_at "sL" | walk_at "fin" | walk_at "stkL" | walk_at "call" | walk_at "saL")
local macro_rules | `(tactic| walk_at "goL") => `(tactic| first | walk_at "sL" | walk_at "finy" | walk_at "stkL" | walk_at "call" | walk_at "saL")
noncomputable def S (x : String) : Str := Str.ofString x
noncomputable def ent (x : Int) (k : String) (t : Nat) (v : Value) : DictEntry := ⟨x, .str (Str.ofString k) t, v⟩
noncomputable abbrev nsL (x : Nat → Int) (tk : Nat → Nat) (sl f0 f1 f2 f3 f4 f5 sa : Nat) : List DictEntry :=
    [⟨x 0, .str (Str.ofString "__module__") (tk 0), .str (Str.ofString "cpy313.functools") (tk 1)⟩,
      ⟨x 2, .str (Str.ofString "__firstlineno__") (tk 4), .int 4 (tk 5)⟩,
      ⟨x 3, .str (Str.ofString "__slots__") (tk 6), .ref (sl + 111)⟩,
      ⟨x 4, .str (Str.ofString "__init__") (tk 7), .ref (f0 + 111)⟩,
      ⟨x 5, .str (Str.ofString "__lt__") (tk 8), .ref (f1 + 111)⟩,
      ⟨x 6, .str (Str.ofString "__gt__") (tk 9), .ref (f2 + 111)⟩,
      ⟨x 7, .str (Str.ofString "__eq__") (tk 10), .ref (f3 + 111)⟩,
      ⟨x 8, .str (Str.ofString "__le__") (tk 11), .ref (f4 + 111)⟩,
      ⟨x 9, .str (Str.ofString "__ge__") (tk 12), .ref (f5 + 111)⟩,
      ⟨x 10, .str (Str.ofString "__hash__") (tk 13), .none⟩,
      ⟨x 11, .str (Str.ofString "__static_attributes__") (tk 14), .ref (sa + 111)⟩]
noncomputable abbrev clsD (C N : Nat) (hd : Bool) (sn : List Str) : ClassData := { name := Str.ofString "K", bases := [.type "object"], mro := [.ref C, .type "object"], ns := N, qualname := Str.ofString "cmp_to_key.<locals>.K", hasDict := hd, slotNames := sn }
noncomputable abbrev zH (i : Int) : Int := ZFast.zw12210062019545310541 i
theorem s_forL {β : Type} {mm : Monad Sem} {prog : Program} {w : World} {A : Around} {E : Value → Shared → Prop} {Q : β → Shared → Prop} {s : Shared} {l l' : List Value} {b : β} {f : Value → β → Sem (ForInStep β)} (e : l = l') (x : wpAny (model prog w) A (@R.forLR Sem mm Value β l' b f) Q E s) : wpAny (model prog w) A (@R.forLR Sem mm Value β l b f) Q E s := by subst e; exact x
theorem s_clC {α : Type} {prog : Program} {w : World} {E : Value → Shared → Prop} {Q : α → Shared → Prop} {s : Shared} {n : Nat} {c c' : Code} {gd : Bool} {l : List Value} {k : Result → Sem α} (e : c = c') (hc : plainCode c' = true)
    (x : wpAny (model prog w) (Az (n + 1)) (zden c') (finP prog w (Az n) (fun r s' => wpAny (model prog w) (Az n) (k r) Q E s')) (fun e s' => wpAny (model prog w) (Az n) (k (.error e)) Q E s') s) :
    wpAny (model prog w) (Az n) (.call c none gd l k) Q E s := by subst e; exact s_callZ (s_codeN hc x)
noncomputable abbrev memO (t aC : Nat) : Obj := ⟨.type "member_descriptor", none, .fields #[.str (Str.ofString "obj") t, .ref (aC + 111), .builtin "proto.slot", .builtin "proto.slot#set", .int 0 0], #[]⟩
noncomputable abbrev clsO (u : Nat) (tk : Nat → Nat) (bt aC aN : Nat) : Obj := ⟨.type "type", none, .cls (clsD (aC + 111) (aN + 111) false [Str.ofString "obj"]), #[some (.ref (bt + 111)), none, some (.str (Str.ofString "K") u), some (.str (Str.ofString "cmp_to_key.<locals>.K") (tk 3)), some (.builtin "object.__new__"), some (.bool false)]⟩
noncomputable abbrev nsO (y0 y1 : Int) (t : Nat) (x : Nat → Int) (tk : Nat → Nat) (sl f0 f1 f2 f3 f4 f5 sa aM : Nat) : Obj := ⟨.type "dict", none, .dict (nsL x tk sl f0 f1 f2 f3 f4 f5 sa ++ ([⟨y0, .str (Str.ofString "obj") (t + 1), .ref (aM + 111)⟩, ⟨y1, .str (Str.ofString "__doc__") (t + 1 + 1), .none⟩] : List DictEntry)).toArray 3, #[]⟩
theorem tcall : ∀ (w : World) (h : Heap) (g : Array GenState) (d : Drawn) (t : Nat) (os : OsState) (R : Result → Shared → Prop) (n u : Nat) (bt ns sl f0 f1 f2 f3 f4 f5 sa : Nat) (tk : Nat → Nat) (x : Nat → Int) (fd0 fd1 fd2 fd3 fd4 fd5 : FuncData) (its : Array Value),
    (KF w.params).In h → n < 20 →
    h.get? (bt + 111) = some ⟨.type "tuple", none, .seq #[.type "object"] 0, #[]⟩ →
    h.get? (ns + 111) = some ⟨.type "dict", none, .dict #[⟨x 0, .str (Str.ofString "__module__") (tk 0), .str (Str.ofString "cpy313.functools") (tk 1)⟩,
      ⟨x 1, .str (Str.ofString "__qualname__") (tk 2), .str (Str.ofString "cmp_to_key.<locals>.K") (tk 3)⟩,
      ⟨x 2, .str (Str.ofString "__firstlineno__") (tk 4), .int 4 (tk 5)⟩,
      ⟨x 3, .str (Str.ofString "__slots__") (tk 6), .ref (sl + 111)⟩,
      ⟨x 4, .str (Str.ofString "__init__") (tk 7), .ref (f0 + 111)⟩,
      ⟨x 5, .str (Str.ofString "__lt__") (tk 8), .ref (f1 + 111)⟩,
      ⟨x 6, .str (Str.ofString "__gt__") (tk 9), .ref (f2 + 111)⟩,
      ⟨x 7, .str (Str.ofString "__eq__") (tk 10), .ref (f3 + 111)⟩,
      ⟨x 8, .str (Str.ofString "__le__") (tk 11), .ref (f4 + 111)⟩,
      ⟨x 9, .str (Str.ofString "__ge__") (tk 12), .ref (f5 + 111)⟩,
      ⟨x 10, .str (Str.ofString "__hash__") (tk 13), .none⟩,
      ⟨x 11, .str (Str.ofString "__static_attributes__") (tk 14), .ref (sa + 111)⟩] 12, #[]⟩ →
    h.get? (sl + 111) = some ⟨.type "list", none, .seq #[.str (Str.ofString "obj") (tk 15)] 0, #[]⟩ →
    h.get? (f0 + 111) = some ⟨.type "function", none, .func fd0, #[]⟩ →
    h.get? (f1 + 111) = some ⟨.type "function", none, .func fd1, #[]⟩ →
    h.get? (f2 + 111) = some ⟨.type "function", none, .func fd2, #[]⟩ →
    h.get? (f3 + 111) = some ⟨.type "function", none, .func fd3, #[]⟩ →
    h.get? (f4 + 111) = some ⟨.type "function", none, .func fd4, #[]⟩ →
    h.get? (f5 + 111) = some ⟨.type "function", none, .func fd5, #[]⟩ →
    h.get? (sa + 111) = some ⟨.type "tuple", none, .seq its 0, #[]⟩ →
    (∀ (y0 y1 : Int) (b aS aM aC aN aL : Nat) (h' : Heap), Led h h' [] [(b + 111, ⟨.type "builtin_function_or_method", none, .fields #[.builtin "object.__init_subclass__", .ref (aC + 111)], #[]⟩),
      (aS + 111, ⟨.type "super", none, .fields #[.ref (aC + 111), .ref (aC + 111), .ref (aC + 111)], #[]⟩),
      (aM + 111, memO t aC), (aC + 111, clsO u tk bt aC aN),
      (aN + 111, nsO y0 y1 t x tk sl f0 f1 f2 f3 f4 f5 sa aM), (aL + 111, ⟨.type "list", none, .seq #[.str (Str.ofString "obj") (tk 15)] 1, #[]⟩)] → R (.ok (.ret (.ref (aC + 111)))) ⟨h', g, d, t + 1 + 1 + 1 + 1, os⟩) →
    codeAny (model Challenge.rw_mg0016_01.prog w) (Az n) (.builtin "type.__call__" ⟨[.type "type", .str (Str.ofString "K") u, .ref (bt + 111), .ref (ns + 111)], []⟩) R ⟨h, g, d, t, os⟩ := by
  intro w h g d t os R n u bt ns sl f0 f1 f2 f3 f4 f5 sa tk x fd0 fd1 fd2 fd3 fd4 fd5 its X hn hbt hns hsl h0 h1 h2 h3 h4 h5 hsa fin
  obtain ⟨z, hz, Y, eY⟩ := LP.start (X 110 _ rfl)
  rw [← eY]
  clear eY
  refine s_codeT rfl ?_
  conv => arg 3; whnf
  refine s_bindR ?_
  refine s_kern (v := some "type.__new__") (by kernel_rfl) ?_
  iterate 14 walk_at "goK"
  have neL : (z + 111 == sl + 111) = false := beq_false_of_ne (Nat.ne_of_gt (Nat.lt_of_lt_of_eq (Heap.lt_size hsl) hz))
  rw [show Builtin.List.listSameRef (Value.ref (z + 111)) (Value.ref (sl + 111)) = false from neL]
  iterate 7 (first | walk_at "sL" | walk_at "fin" | walk_at "stkL" | walk_at "call")
  refine s_bindR ?_
  refine s_kern (v := { names := [Str.ofString "obj"], dict := false, weak := false, inherited := [] }) (by kernel_rfl) ?_
  iterate 15 walk_at "goK"
  (first | refine s_bindR ?_ | refine s_keepR ?_)
  refine s_kern (v := none) (by kernel_rfl) ?_
  refine s_bindR ?_
  refine s_kern (v := [.type "object"]) (by kernel_rfl) ?_
  refine s_bindR ?_
  refine s_pure ?_
  refine s_bindR ?_
  rw [fl_two (by simp) (by rfl)]
  iterate 4 (first | walk_at "sL" | walk_at "fin" | walk_at "stkL" | walk_at "call")
  refine s_bindR ?_
  refine s_kern (v := some "object.__new__") (by kernel_rfl) ?_
  refine s_bindR ?_
  walk_at "sL"
  refine s_pure ?_
  refine l_norm [((z + 113), ⟨.type "type", none, .cls (clsD (z + 113) (z + 112) true []), #[some (.ref (bt + 111)), none, some (.str (Str.ofString "K") u), some (.str (Str.ofString "cmp_to_key.<locals>.K") (tk 3)), some (.builtin "object.__new__")]⟩),
      ((z + 112), ⟨.type "dict", none, .dict (nsL x tk sl f0 f1 f2 f3 f4 f5 sa).toArray 1, #[]⟩), ((z + 111), ⟨.type "list", none, .seq #[.str (Str.ofString "obj") (tk 15)] 1, #[]⟩)] (by kernel_rfl) ?_
  refine s_bindR ?_
  iterate 4 (first | walk_at "sL" | walk_at "fin" | walk_at "stkL" | walk_at "call")
  refine s_kern (v := ()) (by kernel_rfl) ?_
  refine s_bindR ?_
  iterate 33 (first | walk_at "sL" | walk_at "fin" | walk_at "stkL" | walk_at "call")
  (first | refine s_bindR ?_ | refine s_keepR ?_)
  refine s_kern (v := [.type "super", .type "object"]) (by kernel_rfl) ?_
  refine s_bindR ?_
  refine s_kern (v := some "super.__new__") (by kernel_rfl) ?_
  (first | walk_at "sL" | walk_at "fin" | walk_at "stkL" | walk_at "call")
  refine s_kern (v := Fin.again (.builtin "super.__new__" ⟨[Value.type "super", Value.ref (z + 113), Value.ref (z + 113)], []⟩)) (by kernel_rfl) ?_
  iterate 12 (first | walk_at "sL" | walk_at "fin" | walk_at "stkL" | walk_at "call")
  refine s_bindR ?_
  refine s_condT (by show ZFast.zw3471404346716756564 [Value.ref (z + 113), Value.type "object"] (Value.ref (z + 113)) = true; rw [← ZFast.ze3471404346716756564]; simp) ?_
  refine s_pure ?_
  iterate 13 (first | walk_at "sL" | walk_at "finx" | walk_at "stkL" | walk_at "call")
  refine l_normF [((z + 115), ⟨.type "super", none, .fields #[.ref (z + 113), .ref (z + 113), .ref (z + 113)], #[]⟩),
      ((z + 114), memO t (z + 2)), ((z + 113), clsO u tk bt (z + 2) (z + 1)), ((z + 112), nsO (zH (w.params.strHash (Str.ofString "obj").cps)) (zH (w.params.strHash (Str.ofString "__doc__").cps)) t x tk sl f0 f1 f2 f3 f4 f5 sa (z + 3)), ((z + 111), ⟨.type "list", none, .seq #[.str (Str.ofString "obj") (tk 15)] 1, #[]⟩)] (by kernel_rfl) ?_
  refine s_agB (id' := "super.__getattribute__") (by decide +kernel) (by decide +kernel) ?_
  iterate 5 walk_at "sL"
  refine s_bindR ?_
  refine s_forL (l' := [Value.type "object"]) (by show List.drop 1 (List.dropWhile (fun x => x != Value.ref (z + 113)) [Value.ref (z + 113), Value.type "object"]) = _; simp) ?_
  refine x_skim 400 ?_
  conv => arg 3; whnf
  refine s_clC (c' := .call (.builtin "classmethod_descriptor.__get__") ⟨[.builtin "object.__init_subclass__", .none, .ref (z + 113)], []⟩) ?_ rfl ?_
  · show Code.call (Value.builtin _) (Args.mk [_, condFn Value (Value.ref (z + 113) == Value.ref (z + 113)) Value.none (Value.ref (z + 113)), Value.ref (z + 113)] []) = _
    rw [beq_self_eq_true]
    kernel_rfl
  iterate 28 walk_at "goK"
  refine l_openR ?_
  intro h'' D''
  exact fin _ _ (z + 5) (z + 4) (z + 3) (z + 2) (z + 1) z h'' D''
noncomputable def fdOf (st : Stmt) (cl : List (Str × Addr)) (cd ct : Value) : FuncData := match st with
  | .FunctionDef name args body _ _ _ scope _ _ _ => { name := name, qualname := Str.ofString "cmp_to_key.<locals>.K." ++ name, params := args, body := .stmts body, scope := scope, globals := 3, closure := cl, defaults := .none, kwdefaults := .none, doc := .none, pyModule := .str (Str.ofString "law_mg0016_01") 249, code := cd, closureTuple := ct, builtins := 0 }
  | _ => { name := Str.ofString "", qualname := Str.ofString "", params := ⟨[], [], none, [], [], none, []⟩, body := .stmts [], scope := { kind := .function, names := [], isGenerator := false, isCoroutine := false }, globals := 3, closure := cl, defaults := .none, kwdefaults := .none }
noncomputable def hnm : List String := ["__module__", "__qualname__", "__firstlineno__", "__slots__", "__init__", "__lt__", "__gt__", "__eq__", "__le__", "__ge__", "__hash__", "__static_attributes__"]
noncomputable def xK (w : World) (i : Nat) : Int := zH (w.params.strHash (Str.ofString (hnm.getD i "")).cps)
noncomputable def tkK (t : Nat) (i : Nat) : Nat := t + [8, 13, 10, 9, 12, 11, 16, 24, 33, 42, 51, 60, 69, 70, 72, 15].getD i 0
noncomputable abbrev nsP (x : Nat → Int) (tk : Nat → Nat) (sl f0 f1 f2 f3 f4 f5 sa : Nat) : Obj := ⟨.type "dict", none, .dict #[⟨x 0, .str (Str.ofString "__module__") (tk 0), .str (Str.ofString "cpy313.functools") (tk 1)⟩,
      ⟨x 1, .str (Str.ofString "__qualname__") (tk 2), .str (Str.ofString "cmp_to_key.<locals>.K") (tk 3)⟩,
      ⟨x 2, .str (Str.ofString "__firstlineno__") (tk 4), .int 4 (tk 5)⟩,
      ⟨x 3, .str (Str.ofString "__slots__") (tk 6), .ref (sl + 111)⟩,
      ⟨x 4, .str (Str.ofString "__init__") (tk 7), .ref (f0 + 111)⟩,
      ⟨x 5, .str (Str.ofString "__lt__") (tk 8), .ref (f1 + 111)⟩,
      ⟨x 6, .str (Str.ofString "__gt__") (tk 9), .ref (f2 + 111)⟩,
      ⟨x 7, .str (Str.ofString "__eq__") (tk 10), .ref (f3 + 111)⟩,
      ⟨x 8, .str (Str.ofString "__le__") (tk 11), .ref (f4 + 111)⟩,
      ⟨x 9, .str (Str.ofString "__ge__") (tk 12), .ref (f5 + 111)⟩,
      ⟨x 10, .str (Str.ofString "__hash__") (tk 13), .none⟩,
      ⟨x 11, .str (Str.ofString "__static_attributes__") (tk 14), .ref (sa + 111)⟩] 12, #[]⟩
theorem s_againT {prog : Program} {w : World} {R : Result → Shared → Prop} {s : Shared} {n : Nat} {id : String} {args args' : Args} (e : id = "type.__call__") (ea : args = args') (x : codeAny (model prog w) (Az n) (.builtin "type.__call__" args') R s) :
    finP prog w (Az n) R (.again (.builtin id args)) s := by
  subst e; subst ea
  exact ⟨Code.quiet_builtin _ (by decide +kernel), x⟩
noncomputable abbrev fnO (i : Nat) (cl : List (Str × Addr)) (cd ct : Value) : Obj := ⟨.type "function", none, .func (fdOf (kSt i) cl cd ct), #[]⟩
noncomputable abbrev cdO (nm qn : String) (line : Int) (q p16 p18 r1 r2 r3 r4 r5 : Nat) : Obj := ⟨.type "code", none, .fields #[.str (Str.ofString nm) q, .str (Str.ofString qn) (q + 1), .str (Str.ofString "/claim/cut.py") (q + 2), .int line 0, .int 2 0, .int 0 0, .int 0 0, .int 19 0, .ref (r1 + 111), .bool true, .int 181 0, .ref (r2 + 111), .none, .ref (r3 + 111), .ref (r4 + 111), .ref (r5 + 111), .int (Int.ofNat p16) 0, .int line 0, .str (Str.ofString "/claim/cut.py") p18], #[]⟩
set_option genInjectivity false in
set_option genSizeOf false in
structure KD where
  (bt N M sl sa cell u t : Nat)
  (tk : Nat → Nat)
  (x : Nat → Int)
  (y0 y1 : Int)
  (f0 f1 f2 f3 f4 f5 c0 c1 c2 c3 c4 c5 e1 e2 e3 e4 e5 : Nat)
  (q0 q1 q2 q3 q4 q5 p0 p1 p2 p3 p4 p5 s0 s1 s2 s3 s4 s5 : Nat)
  (r00 r01 r02 r03 r04 r10 r11 r12 r13 r14 r20 r21 r22 r23 r24 r30 r31 r32 r33 r34 r40 r41 r42 r43 r44 r50 r51 r52 r53 r54 : Nat)
/-- the class, at C + 111 -/
structure IsKd (h : Heap) (C : Nat) (k : KD) : Prop where
  hC : h.get? (C + 111) = some (clsO k.u k.tk k.bt C k.N)
  hN : h.get? (k.N + 111) = some (nsO k.y0 k.y1 k.t k.x k.tk k.sl k.f0 k.f1 k.f2 k.f3 k.f4 k.f5 k.sa k.M)
  hM : h.get? (k.M + 111) = some (memO k.t C)
  hcell : h.get? (k.cell + 111) = some ⟨.type "cell", none, .cell (some (.ref 98)), #[]⟩
  hf0 : h.get? (k.f0 + 111) = some (fnO 2 [] (.ref (k.c0 + 111)) .none)
  hc0 : h.get? (k.c0 + 111) = some (cdO "__init__" "cmp_to_key.<locals>.K.__init__" 8 k.q0 k.p0 k.s0 k.r00 k.r01 k.r02 k.r03 k.r04)
  hf1 : h.get? (k.f1 + 111) = some (fnO 3 [(Str.ofString "mycmp", k.cell + 111)] (.ref (k.c1 + 111)) (.ref (k.e1 + 111)))
  hc1 : h.get? (k.c1 + 111) = some (cdO "__lt__" "cmp_to_key.<locals>.K.__lt__" 11 k.q1 k.p1 k.s1 k.r10 k.r11 k.r12 k.r13 k.r14)
  hf2 : h.get? (k.f2 + 111) = some (fnO 4 [(Str.ofString "mycmp", k.cell + 111)] (.ref (k.c2 + 111)) (.ref (k.e2 + 111)))
  hc2 : h.get? (k.c2 + 111) = some (cdO "__gt__" "cmp_to_key.<locals>.K.__gt__" 14 k.q2 k.p2 k.s2 k.r20 k.r21 k.r22 k.r23 k.r24)
  hf3 : h.get? (k.f3 + 111) = some (fnO 5 [(Str.ofString "mycmp", k.cell + 111)] (.ref (k.c3 + 111)) (.ref (k.e3 + 111)))
  hc3 : h.get? (k.c3 + 111) = some (cdO "__eq__" "cmp_to_key.<locals>.K.__eq__" 17 k.q3 k.p3 k.s3 k.r30 k.r31 k.r32 k.r33 k.r34)
  hf4 : h.get? (k.f4 + 111) = some (fnO 6 [(Str.ofString "mycmp", k.cell + 111)] (.ref (k.c4 + 111)) (.ref (k.e4 + 111)))
  hc4 : h.get? (k.c4 + 111) = some (cdO "__le__" "cmp_to_key.<locals>.K.__le__" 20 k.q4 k.p4 k.s4 k.r40 k.r41 k.r42 k.r43 k.r44)
  hf5 : h.get? (k.f5 + 111) = some (fnO 7 [(Str.ofString "mycmp", k.cell + 111)] (.ref (k.c5 + 111)) (.ref (k.e5 + 111)))
  hc5 : h.get? (k.c5 + 111) = some (cdO "__ge__" "cmp_to_key.<locals>.K.__ge__" 23 k.q5 k.p5 k.s5 k.r50 k.r51 k.r52 k.r53 k.r54)
noncomputable def IsK (h : Heap) (C : Nat) : Prop := ∃ k, IsKd h C k
theorem IsK.keeps {h h' : Heap} {C : Nat} (x : IsK h C) (kp : ∀ b o, h.get? b = some o → h'.get? b = some o) : IsK h' C := by
  obtain ⟨k, F⟩ := x
  exact ⟨k, ⟨kp _ _ F.hC, kp _ _ F.hN, kp _ _ F.hM, kp _ _ F.hcell, kp _ _ F.hf0, kp _ _ F.hc0, kp _ _ F.hf1, kp _ _ F.hc1, kp _ _ F.hf2, kp _ _ F.hc2, kp _ _ F.hf3, kp _ _ F.hc3, kp _ _ F.hf4, kp _ _ F.hc4, kp _ _ F.hf5, kp _ _ F.hc5⟩⟩
theorem Led.atN {h₀ h : Heap} {chg news : List (Addr × Obj)} (D : Led h₀ h chg news) {G : Heap} (hn : ∀ b o, h₀.get? b = none → h.get? b = some o → G.get? b = some o) (i : Nat) (a : Addr) (o : Obj) (hi : news[i]? = some (a, o)) : G.get? a = some o :=
  hn _ _ (Heap.get?_none_of_le (D.lo (a, o) (List.mem_of_getElem? hi))) (D.at i a o hi)
theorem t5x : ∀ (w : World) (n : Nat) (s : Shared) (Q : Value → Shared → Prop) (E : Value → Shared → Prop) (mb : Str → Option Value) (sl4 : Array (Option Value)), n < 10 → (KF w.params).In s.heap → s.heap.get? 16 = some (tableObj #[]) →
    s.heap.get? 4 = some ⟨.type "module", some 0, .plain, sl4⟩ → s.heap.Ns 0 mb → mb (Str.ofString "object") = some (.type "object") → mb (Str.ofString "__build_class__") = some (.builtin "__build_class__") →
    (∀ (C : Nat) (h' : Heap) (t' : Nat), (∀ b o, b ≠ 16 → s.heap.get? b = some o → h'.get? b = some o) → OldK s.heap h' → (∃ ps, h'.get? 16 = some (tableObj ps)) → s.heap.objs.size ≤ C + 111 → s.heap.objs.size ≤ h'.objs.size → (∀ G : Heap, (∀ b o, s.heap.get? b = none → h'.get? b = some o → G.get? b = some o) → IsK G C) → Q (.ref (C + 111)) { s with heap := h', toks := t' }) →
    wpAny (model Challenge.rw_mg0016_01.prog w) (Az n) (call (.ref 21) [.ref 98]) Q E s := by
  intro w n s Q E mb sl4 hn X h16 h4 hB hm1 hm2 fin
  obtain ⟨h, g, d, t, os⟩ := s
  dsimp only at X h16 h4 hB fin
  obtain ⟨z, hz, Y, eY⟩ := LP.start (X 110 _ rfl)
  rw [← eY]
  clear eY hz
  walk_at "call"
  iterate 9 walk_at "goK"
  iterate 2 (first | refine s_bindR ?_ | refine s_keepR ?_ | refine s_catchR ?_ | refine s_onRaiseR ?_)
  refine l_norm [(z + 112, ⟨.type "cell", none, .cell (some (.ref 98)), #[]⟩), (z + 111, ⟨.type "frame", none, .dict #[] 0, #[]⟩)] (by kernel_rfl) ?_
  obtain ⟨mg, hg, hgo⟩ : ∃ mg, h.Ns 3 mg ∧ mg (Str.ofString "object") = none := kf_globals X
  refine wpAny_mono (E := fun _ _ => False) ?_ (fun _ _ q => q) (fun _ _ q => q.elim)
  refine cls_stmtZ (name := Str.ofString "K") (bind := Str.ofString "K") (ts := none) (p1 := ⟨4, 12, 4, 18⟩) (body := kBody) (scope := kScope) (statics := kStat) (pos := kPos) (rest := cRest) (env := envC z (z + 1)) (qual := Str.ofString "cmp_to_key.<locals>.K") (ln := 4) (by kernel_rfl) (by kernel_rfl) (by kernel_rfl) (by kernel_rfl) (by kernel_rfl) (by kernel_rfl) (hg.keeps (LP.keeps _)) hgo (hB.keeps (LP.keeps _)) hm1 hm2 ?_
  clear hg hgo
  iterate 32 walk_at "goK"
  (refine x_skim 400 ?_; (conv => arg 3; whnf))
  refine' l_grow (a := 16) (c := 20) (ps := #[]) (X _ _ rfl) rfl rfl h16 rfl ?hn ?_
  (case hn => rfl)
  iterate 214 walk_at "goL"
  refine l_openF ?_
  intro hc D
  refine s_againT (args' := ⟨[.type "type", .str (Str.ofString "K") t, .ref (z + 2 + 111), .ref (z + 4 + 111)], []⟩) (by decide +kernel) (by kernel_rfl) ?_
  refine tcall w hc g d _ os _ (n + 1) t (z + 2) (z + 4) (z + 9) (z + 16) (z + 24) (z + 32) (z + 40) (z + 48) (z + 56) (z + 57) (tkK t) (xK w) (fdOf (kSt 2) [] (.ref (z + 15 + 111)) (.none)) (fdOf (kSt 3) [(Str.ofString "mycmp", (z + 1) + 111)] (.ref (z + 23 + 111)) (.ref (z + 17 + 111))) (fdOf (kSt 4) [(Str.ofString "mycmp", (z + 1) + 111)] (.ref (z + 31 + 111)) (.ref (z + 25 + 111))) (fdOf (kSt 5) [(Str.ofString "mycmp", (z + 1) + 111)] (.ref (z + 39 + 111)) (.ref (z + 33 + 111))) (fdOf (kSt 6) [(Str.ofString "mycmp", (z + 1) + 111)] (.ref (z + 47 + 111)) (.ref (z + 41 + 111))) (fdOf (kSt 7) [(Str.ofString "mycmp", (z + 1) + 111)] (.ref (z + 55 + 111)) (.ref (z + 49 + 111))) #[.str (Str.ofString "obj") (t + 71)] (Led.frag D X (kf16 _)) (by omega) ((Led.at D 55 _ _ rfl).trans (congrArg some (by kernel_rfl))) ((Led.at D 53 _ _ rfl).trans (congrArg some (by kernel_rfl))) ((Led.at D 48 _ _ rfl).trans (congrArg some (by kernel_rfl))) ((Led.at D 41 _ _ rfl).trans (congrArg some (by kernel_rfl))) ((Led.at D 33 _ _ rfl).trans (congrArg some (by kernel_rfl))) ((Led.at D 25 _ _ rfl).trans (congrArg some (by kernel_rfl))) ((Led.at D 17 _ _ rfl).trans (congrArg some (by kernel_rfl))) ((Led.at D 9 _ _ rfl).trans (congrArg some (by kernel_rfl))) ((Led.at D 1 _ _ rfl).trans (congrArg some (by kernel_rfl))) ((Led.at D 0 _ _ rfl).trans (congrArg some (by kernel_rfl))) ?_
  intro y0 y1 b aS aM aC aN aL h2 D2
  refine l_join D D2 (X 110 _ rfl) _ (by dsimp only [List.cons_append, List.nil_append]) ?_
  intro z' Y'
  iterate 9 walk_at "goK"
  refine l_openR ?_
  intro hf DF
  refine fin aC hf _ DF.keep16 DF.toMem.oldK ⟨_, Led.atC DF 0 _ _ rfl⟩ (DF.lo _ (List.mem_of_getElem? (i := 3) rfl)) DF.sz ?_
  · intro G hnw
    exact ⟨⟨(z + 2), aN, aM, (z + 9), (z + 57), (z + 1), t, (t + 73), (tkK t), (xK w), y0, y1, (z + 16), (z + 24), (z + 32), (z + 40), (z + 48), (z + 56), (z + 15), (z + 23), (z + 31), (z + 39), (z + 47), (z + 55), (z + 17), (z + 25), (z + 33), (z + 41), (z + 49), (t + 17), (t + 25), (t + 34), (t + 43), (t + 52), (t + 61), (t + 22), (t + 31), (t + 40), (t + 49), (t + 58), (t + 67), (t + 23), (t + 32), (t + 41), (t + 50), (t + 59), (t + 68), (z + 10), (z + 11), (z + 12), (z + 13), (z + 14), (z + 18), (z + 19), (z + 20), (z + 21), (z + 22), (z + 26), (z + 27), (z + 28), (z + 29), (z + 30), (z + 34), (z + 35), (z + 36), (z + 37), (z + 38), (z + 42), (z + 43), (z + 44), (z + 45), (z + 46), (z + 50), (z + 51), (z + 52), (z + 53), (z + 54)⟩,
      ⟨(Led.atN DF hnw 3 _ _ rfl).trans (congrArg some (by kernel_rfl)),
      (Led.atN DF hnw 4 _ _ rfl).trans (congrArg some (by kernel_rfl)),
      (Led.atN DF hnw 2 _ _ rfl).trans (congrArg some (by kernel_rfl)),
      (Led.atN DF hnw 62 _ _ rfl).trans (congrArg some (by kernel_rfl)),
      (Led.atN DF hnw 47 _ _ rfl).trans (congrArg some (by kernel_rfl)),
      (Led.atN DF hnw 48 _ _ rfl).trans (congrArg some (by kernel_rfl)),
      (Led.atN DF hnw 39 _ _ rfl).trans (congrArg some (by kernel_rfl)),
      (Led.atN DF hnw 40 _ _ rfl).trans (congrArg some (by kernel_rfl)),
      (Led.atN DF hnw 31 _ _ rfl).trans (congrArg some (by kernel_rfl)),
      (Led.atN DF hnw 32 _ _ rfl).trans (congrArg some (by kernel_rfl)),
      (Led.atN DF hnw 23 _ _ rfl).trans (congrArg some (by kernel_rfl)),
      (Led.atN DF hnw 24 _ _ rfl).trans (congrArg some (by kernel_rfl)),
      (Led.atN DF hnw 15 _ _ rfl).trans (congrArg some (by kernel_rfl)),
      (Led.atN DF hnw 16 _ _ rfl).trans (congrArg some (by kernel_rfl)),
      (Led.atN DF hnw 7 _ _ rfl).trans (congrArg some (by kernel_rfl)),
      (Led.atN DF hnw 8 _ _ rfl).trans (congrArg some (by kernel_rfl))⟩⟩
end
end Mine
namespace Mine
section
open PySem PySem.W PySem.W.X PyProof.Rows PySem.Spec PySem.Calls
set_option maxRecDepth 100000
set_option maxHeartbeats 0
set_option linter.unusedVariables false
set_option linter.unusedSimpArgs false
theorem mem_lookup {a : Addr} {o : Obj} : ∀ {K : Frag}, K.lookup a = some o → (a, o) ∈ K
  | [], e => by cases e
  | (b, p) :: r, e => by
    rw [List.lookup] at e
    split at e
    · rename_i q; cases e; rw [beq_iff_eq.mp q]; exact .head _
    · exact .tail _ (mem_lookup e)
theorem lookup_valid {h : Heap} {a : Addr} {o : Obj} : ∀ {K : Frag}, (∀ p ∈ K, h.get? p.1 = some p.2) → (a, o) ∈ K → K.lookup a = some o
  | [], _, hm => nomatch hm
  | (b, p) :: r, V, hm => by
    rw [List.lookup]
    split
    · rename_i q
      have e1 := V (b, p) (.head _)
      have e2 := V (a, o) hm
      dsimp only at e1 e2
      rw [beq_iff_eq.mp q] at e2
      rw [e1] at e2
      exact e2
    · rename_i q
      refine lookup_valid (fun p hp => V p (.tail _ hp)) ?_
      rcases List.mem_cons.mp hm with e | hm
      · cases e; simp at q
      · exact hm
noncomputable def KX (C : Nat) (k : KD) : Frag := [(C + 111, clsO k.u k.tk k.bt C k.N), (k.N + 111, nsO k.y0 k.y1 k.t k.x k.tk k.sl k.f0 k.f1 k.f2 k.f3 k.f4 k.f5 k.sa k.M), (k.M + 111, memO k.t C),
  (k.f0 + 111, fnO 2 [] (.ref (k.c0 + 111)) .none), (k.f1 + 111, fnO 3 [(Str.ofString "mycmp", k.cell + 111)] (.ref (k.c1 + 111)) (.ref (k.e1 + 111))),
  (k.f2 + 111, fnO 4 [(Str.ofString "mycmp", k.cell + 111)] (.ref (k.c2 + 111)) (.ref (k.e2 + 111))), (k.f3 + 111, fnO 5 [(Str.ofString "mycmp", k.cell + 111)] (.ref (k.c3 + 111)) (.ref (k.e3 + 111))),
  (k.f4 + 111, fnO 6 [(Str.ofString "mycmp", k.cell + 111)] (.ref (k.c4 + 111)) (.ref (k.e4 + 111))), (k.f5 + 111, fnO 7 [(Str.ofString "mycmp", k.cell + 111)] (.ref (k.c5 + 111)) (.ref (k.e5 + 111)))]
section
variable {h : Heap} {C : Nat} {k : KD}
theorem kx_valid (F : IsKd h C k) : ∀ p ∈ KX C k, h.get? p.1 = some p.2 := by
  intro p hp
  simp only [KX, List.mem_cons, List.not_mem_nil, or_false] at hp
  rcases hp with rfl | rfl | rfl | rfl | rfl | rfl | rfl | rfl | rfl
  · exact F.hC
  · exact F.hN
  · exact F.hM
  · exact F.hf0
  · exact F.hf1
  · exact F.hf2
  · exact F.hf3
  · exact F.hf4
  · exact F.hf5
theorem kx_in (F : IsKd h C k) : (KX C k).In h := fun a o e => kx_valid F (a, o) (mem_lookup e)
theorem lk_C (F : IsKd h C k) : (KX C k).lookup (C + 111) = some (clsO k.u k.tk k.bt C k.N) := lookup_valid (kx_valid F) (.head _)
theorem lk_N (F : IsKd h C k) : (KX C k).lookup (k.N + 111) = some (nsO k.y0 k.y1 k.t k.x k.tk k.sl k.f0 k.f1 k.f2 k.f3 k.f4 k.f5 k.sa k.M) := lookup_valid (kx_valid F) (.tail _ (.head _))
theorem lk_M (F : IsKd h C k) : (KX C k).lookup (k.M + 111) = some (memO k.t C) := lookup_valid (kx_valid F) (.tail _ (.tail _ (.head _)))
theorem cls_C (F : IsKd h C k) : clsIn (KX C k) (C + 111) = some (clsD (C + 111) (k.N + 111) false [Str.ofString "obj"]) := by unfold clsIn; rw [lk_C F]
theorem ns_N (F : IsKd h C k) (name : Str) : nsIn (KX C k) (k.N + 111) name = lookIn name (nsO k.y0 k.y1 k.t k.x k.tk k.sl k.f0 k.f1 k.f2 k.f3 k.f4 k.f5 k.sa k.M) := by
  unfold nsIn; rw [lk_N F]; rfl
theorem own_C (F : IsKd h C k) (name : Str) : ownIn (KX C k) name (.ref (C + 111)) = nsIn (KX C k) (k.N + 111) name := by
  unfold ownIn; dsimp only; rw [lk_C F]
theorem find_own (F : IsKd h C k) {name : Str} {v : Value} (e : lookIn name (nsO k.y0 k.y1 k.t k.x k.tk k.sl k.f0 k.f1 k.f2 k.f3 k.f4 k.f5 k.sa k.M) = some (some v)) : findIn (KX C k) (.ref (C + 111)) name = some (some v) := by
  unfold findIn; dsimp only; rw [lk_C F]
  show alongIn (KX C k) name [.ref (C + 111), .type "object"] = _
  unfold alongIn
  rw [own_C F, ns_N F, e]
theorem find_obj (F : IsKd h C k) {name : Str} {r : Option Value} (e : lookIn name (nsO k.y0 k.y1 k.t k.x k.tk k.sl k.f0 k.f1 k.f2 k.f3 k.f4 k.f5 k.sa k.M) = some none) (q : fastBuiltinOwn "object" name = r) : findIn (KX C k) (.ref (C + 111)) name = some r := by
  unfold findIn; dsimp only; rw [lk_C F]
  show alongIn (KX C k) name [.ref (C + 111), .type "object"] = _
  unfold alongIn
  rw [own_C F, ns_N F, e]
  dsimp only
  unfold alongIn ownIn
  dsimp only
  rw [q]
  cases r <;> rfl
theorem f_init (F : IsKd h C k) : findIn (KX C k) (.ref (C + 111)) "__init__" = some (some (.ref (k.f0 + 111))) := find_own F (by kernel_rfl)
theorem f_lt (F : IsKd h C k) : findIn (KX C k) (.ref (C + 111)) "__lt__" = some (some (.ref (k.f1 + 111))) := find_own F (by kernel_rfl)
theorem f_gt (F : IsKd h C k) : findIn (KX C k) (.ref (C + 111)) "__gt__" = some (some (.ref (k.f2 + 111))) := find_own F (by kernel_rfl)
theorem f_eq (F : IsKd h C k) : findIn (KX C k) (.ref (C + 111)) "__eq__" = some (some (.ref (k.f3 + 111))) := find_own F (by kernel_rfl)
theorem f_le (F : IsKd h C k) : findIn (KX C k) (.ref (C + 111)) "__le__" = some (some (.ref (k.f4 + 111))) := find_own F (by kernel_rfl)
theorem f_ge (F : IsKd h C k) : findIn (KX C k) (.ref (C + 111)) "__ge__" = some (some (.ref (k.f5 + 111))) := find_own F (by kernel_rfl)
theorem f_obj (F : IsKd h C k) : findIn (KX C k) (.ref (C + 111)) "obj" = some (some (.ref (k.M + 111))) := find_own F (by kernel_rfl)
theorem f_ga (F : IsKd h C k) : findIn (KX C k) (.ref (C + 111)) "__getattribute__" = some (some (.builtin "object.__getattribute__")) := find_obj F (by kernel_rfl) (by kernel_rfl)
theorem f_gx (F : IsKd h C k) : findIn (KX C k) (.ref (C + 111)) "__getattr__" = some none := find_obj F (by kernel_rfl) (by kernel_rfl)
theorem f_sa (F : IsKd h C k) : findIn (KX C k) (.ref (C + 111)) "__setattr__" = some (some (.builtin "object.__setattr__")) := find_obj F (by kernel_rfl) (by kernel_rfl)
theorem f_ne (F : IsKd h C k) : findIn (KX C k) (.ref (C + 111)) "__ne__" = some (some (.builtin "object.__ne__")) := find_obj F (by kernel_rfl) (by kernel_rfl)
theorem ty_M (F : IsKd h C k) : typeIn (KX C k) (.ref (k.M + 111)) = some (.type "member_descriptor") := by unfold typeIn; dsimp only; rw [lk_M F]; rfl
theorem ty_f0 (F : IsKd h C k) : typeIn (KX C k) (.ref (k.f0 + 111)) = some (.type "function") := by unfold typeIn; dsimp only; rw [lookup_valid (kx_valid F) (o := fnO 2 [] (.ref (k.c0 + 111)) .none) (by simp [KX])]; rfl
theorem plain_C (F : IsKd h C k) : plainOver (KX C k) (C + 111) = true := by unfold plainOver; rw [cls_C F]; rfl
theorem takes_M (F : IsKd h C k) : takesIn (KX C k) (.ref (k.M + 111)) = some true := by
  unfold takesIn specialIn
  rw [ty_M F]
  dsimp only [Option.bind]
  rw [show findIn (KX C k) (.type "member_descriptor") "__set__" = some (some (.builtin "member_descriptor.__set__")) from by unfold findIn; kernel_rfl]
theorem taker_obj (F : IsKd h C k) : takerIn (KX C k) (C + 111) "obj" = some (some (.ref (k.M + 111))) := by
  unfold takerIn
  rw [f_obj F]
  dsimp only [Option.bind]
  rw [takes_M F]; rfl
theorem slot_M (F : IsKd h C k) : slotIn (KX C k) (k.M + 111) (C + 111) = some 0 := by
  unfold slotIn recIn
  rw [lk_M F, cls_C F]
  simp [clsD]
theorem findObj_obj (F : IsKd h C k) (od : Option Obj) : findObj (KX C k) (C + 111) od "obj" = some (.bind (.builtin "member_descriptor.__get__") (.ref (k.M + 111))) := by
  unfold findObj
  rw [cls_C F, f_obj F]
  dsimp only [Option.bind]
  unfold specialIn
  rw [ty_M F]
  dsimp only [Option.bind]
  rw [show findIn (KX C k) (.type "member_descriptor") "__get__" = some (some (.builtin "member_descriptor.__get__")) from by unfold findIn; kernel_rfl]
  dsimp only
  rw [takes_M F]
theorem makes_C (F : IsKd h C k) : makesIn (KX C k) (C + 111) = true := by
  unfold makesIn
  rw [lk_C F]
  have e1 : specialIn (KX C k) (.ref (C + 111)) "__call__" = some (some (.builtin "type.__call__")) := by
    unfold specialIn typeIn
    dsimp only
    rw [lk_C F]
    dsimp only [Option.map, Option.bind]
    unfold findIn; kernel_rfl
  have e2 : instIn (KX C k) (.ref (C + 111)) (.type "type") = some true := by
    unfold instIn typeIn
    dsimp only
    rw [lk_C F]
    dsimp only [Option.map, Option.bind]
    unfold subIn
    kernel_rfl
  rw [e1, e2]
  simp [clsD]
end
end
end Mine
namespace Mine
section
open PySem PySem.W PySem.W.X PyProof.Rows PySem.Spec PySem.Calls
set_option maxRecDepth 100000
set_option maxHeartbeats 0
set_option linter.unusedVariables false
set_option linter.unusedSimpArgs false
/-- all that stood stands -/
noncomputable abbrev Kp (h h' : Heap) : Prop := ∀ b o, h.get? b = some o → h'.get? b = some o
theorem kf_nolimit {w : World} {h : Heap} (X : (KF w.params).In h) : h.NoLimit := ⟨_, nsIn_Ns X (a := 2) rfl (strKeys_of (by kernel_rfl)), by kernel_rfl⟩
/-- what stands in every heap of the call -/
structure Bs (w : World) (h : Heap) : Prop where
  X : (KF w.params).In h
  B : ∃ mb, h.Ns 0 mb ∧ ∀ x : Str, x ≠ "__name__" → mb x = bootBuiltins x
theorem Bs.keeps {w : World} {h h' : Heap} (b : Bs w h) (k : Kp h h') : Bs w h' := by
  obtain ⟨X, mb, hb, e⟩ := b
  exact ⟨X.keeps k, mb, hb.keeps k, e⟩
section
variable {prog : Program} {w : World} {A : Around} {R : Result → Shared → Prop} {s : Shared}
theorem call_fn {a : Addr} {o : Obj} {fd : FuncData} {body : List Stmt} {args : Args} {binds : List (Str × Value)} (hroom : A.depth < recursionLimit) (ho : s.heap.get? a = some o) (hd : o.data = .func fd)
    (hco : fd.scope.isCoroutine = false) (hgen : fd.scope.isGenerator = false) (hbody : fd.body = .stmts body) (hcd : s.heap.CodeRec fd.code fd.qualname) (hlim : s.heap.NoLimit)
    (hbind : bindArgs fd args = pure binds) (hcell : ∀ x ∈ fd.scope.names, x.2 ≠ .cell) (hloc : ∀ x ∈ binds, fd.scope.names.lookup x.1 = some .local) (hk : fd.scope.kind = .function)
    (h : ∀ h₁, Fr s.heap s.heap.objs.size h₁ (fun x => binds.reverse.lookup x) →
      wpAny (model prog w) (A.deeper (newEnv fd.scope s.heap.objs.size fd.globals fd.closure (fd.qualname ++ ".<locals>.") (some a) fd.code none fd.builtins)) (execs body (newEnv fd.scope s.heap.objs.size fd.globals fd.closure (fd.qualname ++ ".<locals>.") (some a) fd.code none fd.builtins))
        (fun f s' => R (.ok (.ret (match f with | .ret v => v | _ => .none))) s') (fun _ _ => False) { s with heap := h₁, toks := s.toks + binds.length }) :
    codeAny (model prog w) A (.call (.ref a) args) R s := by
  refine codeAny_call_function hroom ho hd hco hgen hbody hcd ?_
  rw [hbind]
  refine wpAny_pure (wpAny_newFunctionEnv hcell hloc (fun h₁ hns hsb => ⟨hlim.fresh _ hsb, ?_⟩) hk)
  exact codeAny_func (wpAny_mono (h h₁ ⟨hns, fun b o e => hsb.extBut b o (Nat.ne_of_lt (Heap.lt_size e)) (Heap.get?_push_of_some _ e), Nat.le_refl _⟩) (fun _ _ x => x) (fun _ _ x => x.elim))
end
noncomputable def fdScope : Stmt → Scope
  | .FunctionDef _ _ _ _ _ _ sc _ _ _ => sc
  | _ => nilScope
noncomputable def fdBody : Stmt → List Stmt
  | .FunctionDef _ _ b _ _ _ _ _ _ _ => b
  | _ => []
noncomputable def instK (C : Nat) (dx : Addr) (v : Value) : Obj := { cls := .ref (C + 111), dict := some dx, data := .plain, slots := #[some v] }
/-- an object of K that holds the text nm -/
noncomputable def IsI (h : Heap) (C : Nat) (x : Addr) (nm : Str) : Prop := ∃ dx u, h.get? x = some (instK C dx (.str nm u)) ∧ h.get? dx = some emptyDict
theorem IsI.keeps {h h' : Heap} {C : Nat} {x : Addr} {nm : Str} (i : IsI h C x nm) (k : Kp h h') : IsI h' C x nm := by
  obtain ⟨dx, u, e1, e2⟩ := i
  exact ⟨dx, u, k _ _ e1, k _ _ e2⟩
section
variable {prog : Program} {w : World} {A : Around} {E : Value → Shared → Prop} {Q : Value → Shared → Prop} {s : Shared}
theorem mkK {C : Nat} {nm : Str} {u : Tok} (hd : A.depth + 1 < recursionLimit) (hlim : s.heap.NoLimit) (HK : IsK s.heap C)
    (hq : ∀ x h' t', Kp s.heap h' → s.heap.objs.size ≤ x → s.heap.objs.size ≤ h'.objs.size → IsI h' C x nm → Q (.ref x) { s with heap := h', toks := t' }) :
    wpAny (model prog w) A (call (.ref (C + 111)) [.str nm u]) Q E s := by
  obtain ⟨k, F⟩ := HK
  obtain ⟨h, g, d, t, os⟩ := s
  dsimp only at F hlim hq
  refine wpAny_call ?_
  refine make_core (makes_of (kx_in F) (makes_C F)) (looks_findIn (kx_in F) (f_init F)) (fun self => bind_fn (kx_in F) self (ty_f0 F)) (.inl rfl) ?_
  have kp : Kp h ((h.push emptyDict).push (instObj (C + 111) h.objs.size)) := fun b o e => Heap.get?_push_of_some _ (Heap.get?_push_of_some _ e)
  have hx : ((h.push emptyDict).push (instObj (C + 111) h.objs.size)).get? (h.objs.size + 1) = some (instObj (C + 111) h.objs.size) := by heap_get
  have hdx : ((h.push emptyDict).push (instObj (C + 111) h.objs.size)).get? h.objs.size = some emptyDict := by heap_get
  refine call_fn (fd := fdOf (kSt 2) [] (.ref (k.c0 + 111)) .none) (body := fdBody (kSt 2)) (binds := [(Str.ofString "self", .ref (h.objs.size + 1)), (Str.ofString "obj", .str nm u)]) ?_ (kp _ _ F.hf0) rfl rfl rfl rfl ?_ (hlim.keeps kp) (by kernel_rfl) ?_ ?_ rfl ?_
  · have := (tcall_w ⟨[.ref (C + 111), .str nm u], []⟩).1
    simp only [Around.under]
    lia
  · exact ⟨_, _, _, k.q0 + 1, rfl, kp _ _ F.hc0, rfl, by kernel_rfl⟩
  · show ∀ x ∈ (fdScope (kSt 2)).names, x.2 ≠ .cell
    decide
  · intro x hx
    simp only [List.mem_cons, List.not_mem_nil, or_false] at hx
    rcases hx with rfl | rfl
    · kernel_rfl
    · kernel_rfl
  · intro h₁ F₁
    have sz : ((h.push emptyDict).push (instObj (C + 111) h.objs.size)).objs.size = h.objs.size + 2 := by rw [size_push', size_push']
    have kp1 : Kp h h₁ := fun b o e => F₁.keep _ _ (kp _ _ e)
    have FX : IsKd h₁ C k := ⟨kp1 _ _ F.hC, kp1 _ _ F.hN, kp1 _ _ F.hM, kp1 _ _ F.hcell, kp1 _ _ F.hf0, kp1 _ _ F.hc0, kp1 _ _ F.hf1, kp1 _ _ F.hc1, kp1 _ _ F.hf2, kp1 _ _ F.hc2, kp1 _ _ F.hf3, kp1 _ _ F.hc3, kp1 _ _ F.hf4, kp1 _ _ F.hc4, kp1 _ _ F.hf5, kp1 _ _ F.hc5⟩
    dsimp only at F₁ ⊢
    have hx1 := F₁.keep _ _ hx
    have hdx1 := F₁.keep _ _ hdx
    have I : InstAt h₁ (h.objs.size + 1) (instObj (C + 111) h.objs.size) (C + 111) (some emptyDict) := ⟨hx1, rfl, rfl, hdx1⟩
    rw [sz] at F₁ ⊢
    have F₂ : Fr h (h.objs.size + 2) h₁ _ := ⟨F₁.ns, kp1, Nat.le_add_right _ _⟩
    have N₂ : News h (h.objs.size + 2) h₁ ([] ++ (h.objs.size + 1, instObj (C + 111) h.objs.size) :: [(h.objs.size, emptyDict)]) := by
      intro p hp
      simp only [List.nil_append, List.mem_cons, List.not_mem_nil, or_false] at hp
      rcases hp with rfl | rfl
      · exact ⟨hx1, by show h.objs.size + 1 ≠ h.objs.size + 2; lia, Heap.get?_none_of_le (by lia)⟩
      · exact ⟨hdx1, by show h.objs.size ≠ h.objs.size + 2; lia, Heap.get?_none_of_le (Nat.le_refl _)⟩
    refine wpAny_execs_cons (rest := []) ?_
    refine plainObj_wpAny_Assign_Attribute (wpAny_Name (wpAny_loadName_local (v := .str nm u) (by kernel_rfl) (by kernel_rfl) F₁.ns (by kernel_rfl) (wpAny_Name (wpAny_loadName_local (v := .ref (h.objs.size + 1)) (by kernel_rfl) (by kernel_rfl) F₁.ns (by kernel_rfl) ?_))))
    refine set_plain (kx_in FX) I (f_sa FX) ?_
    refine osa_descr PySem.W.KF.slot_mset (kx_in FX) I (plain_C FX) (taker_obj FX) (ty_M FX) ?_
    refine slot_set (pre := []) (post := [(h.objs.size, emptyDict)]) (ox' := instK C h.objs.size (.str nm u)) F₂ N₂ (kx_in FX) I (slot_M FX) (by decide) (fun _ hp => nomatch hp) ?_ (by kernel_rfl) rfl ?_
    · intro p hp
      simp only [List.mem_cons, List.not_mem_nil, or_false] at hp
      subst hp
      show h.objs.size ≠ h.objs.size + 1
      lia
    · intro h' F' N'
      refine wpAny_execs_nil ⟨rfl, ?_⟩
      exact hq _ h' _ F'.keep (Nat.le_succ _) (Nat.le_of_lt (Nat.lt_of_le_of_lt (Nat.le_add_right _ 2) F'.ns.lt)) ⟨_, _, (N' _ (.head _)).1, (N' _ (.tail _ (.head _))).1⟩
end
end
end Mine
namespace Mine
section
open PySem PySem.W PySem.W.X PyProof.Rows PySem.Spec PySem.Calls
set_option maxRecDepth 100000
set_option maxHeartbeats 0
set_option linter.unusedVariables false
set_option linter.unusedSimpArgs false
/-- room for n frames more -/
structure Rm (A : Around) (n : Nat) : Prop where
  d : A.depth + 2 * n < recursionLimit
  u : A.units + 10 * n < cLine
  hh : A.handled = none
theorem Rm.deeper {A : Around} {n : Nat} {env : Env} (r : Rm A (n + 1)) : Rm (A.deeper env) n := ⟨by show A.depth + 1 + 2 * n < _; have := r.d; lia, by show A.units + 3 + 10 * n < _; have := r.u; lia, r.hh⟩
theorem Rm.in1 {A : Around} {n : Nat} (r : Rm A (n + 1)) : Rm A.in1 n := ⟨by show A.depth + 2 * n < _; have := r.d; lia, by show A.units + 1 + 10 * n < _; have := r.u; lia, r.hh⟩
theorem Rm.le {A : Around} {n m : Nat} (r : Rm A n) (h : m ≤ n) : Rm A m := ⟨by have := r.d; lia, by have := r.u; lia, r.hh⟩
theorem Rm.room {A : Around} {n : Nat} (r : Rm A n) : A.depth < recursionLimit := by have := r.d; lia
theorem Rm.units {A : Around} {n : Nat} (r : Rm A n) : A.units < cLine := by have := r.u; lia
/-- what is asked of _law_order: it hands back f a b -/
noncomputable def OrdC (prog : Program) (w : World) (f : Str → Str → Int) : Prop :=
  ∀ (A : Around) (s : Shared) (Q : Value → Shared → Prop) (E : Value → Shared → Prop) (a b : Str) (ta tb : Tok), Rm A 8 → Bs w s.heap → a.length ≤ 6 → b.length ≤ 6 →
    (∀ h' t' tk, Kp s.heap h' → s.heap.objs.size ≤ h'.objs.size → Q (.int (f a b) tk) { s with heap := h', toks := t' }) → wpAny (model prog w) A (call (.ref 98) [.str a ta, .str b tb]) Q E s
theorem IsKd.keeps {h h' : Heap} {C : Nat} {k : KD} (F : IsKd h C k) (kp : Kp h h') : IsKd h' C k :=
  ⟨kp _ _ F.hC, kp _ _ F.hN, kp _ _ F.hM, kp _ _ F.hcell, kp _ _ F.hf0, kp _ _ F.hc0, kp _ _ F.hf1, kp _ _ F.hc1, kp _ _ F.hf2, kp _ _ F.hc2, kp _ _ F.hf3, kp _ _ F.hc3, kp _ _ F.hf4, kp _ _ F.hc4, kp _ _ F.hf5, kp _ _ F.hc5⟩
theorem order_there (P : Params) : ∃ o fd, (KF P).lookup 98 = some o ∧ o.data = .func fd := ⟨_, _, rfl, rfl⟩
section
variable {prog : Program} {w : World} {A : Around} {E : Value → Shared → Prop} {Q : Value → Shared → Prop} {s : Shared}
/-- the slot read -/
theorem get_obj {C : Nat} {k : KD} {x : Addr} {nm : Str} {expr : Bool} (F : IsKd s.heap C k) (I : IsI s.heap C x nm) (h : ∀ u, Q (.str nm u) { s with toks := s.toks + 1 }) : wpAny (model prog w) A (getAttr (.ref x) "obj" expr) Q E s := by
  obtain ⟨dx, u, e1, e2⟩ := I
  have I' : InstAt s.heap x (instK C dx (.str nm u)) (C + 111) (some emptyDict) := ⟨e1, rfl, rfl, e2⟩
  refine get_bind (kx_in F) I' (f_ga F) (findObj_obj F _) (f_gx F) ?_
  refine wpAny_call (slot_get (s := { s with toks := s.toks + 1 }) (kx_in F) I' (slot_M F) (v := .str nm u) (by kernel_rfl) ?_)
  exact handed_on rfl (h u)
theorem m_lt {f : Str → Str → Int} (OC : OrdC prog w f) {C : Nat} {k : KD} {x y : Addr} {a b : Str} (r : Rm A 10) (X : Bs w s.heap) (F : IsKd s.heap C k) (hx : IsI s.heap C x a) (hy : IsI s.heap C y b) (la : a.length ≤ 6) (lb : b.length ≤ 6)
    (hq : ∀ h' t', Kp s.heap h' → s.heap.objs.size ≤ h'.objs.size → Q (.bool (decide (f a b < 0))) { s with heap := h', toks := t' }) :
    wpAny (model prog w) A (call (.ref (k.f1 + 111)) [.ref x, .ref y]) Q E s := by
  refine wpAny_call ?_
  refine call_fn (fd := fdOf (kSt 3) [(Str.ofString "mycmp", k.cell + 111)] (.ref (k.c1 + 111)) (.ref (k.e1 + 111))) (body := fdBody (kSt 3)) (binds := [(Str.ofString "self", .ref x), (Str.ofString "other", .ref y)]) r.room F.hf1 rfl rfl rfl rfl ?_ (kf_nolimit X.X) (by kernel_rfl) ?_ ?_ rfl ?_
  · exact ⟨_, _, _, k.q1 + 1, rfl, F.hc1, rfl, by kernel_rfl⟩
  · show ∀ x ∈ (fdScope (kSt 3)).names, x.2 ≠ .cell
    decide
  · intro z hz
    simp only [List.mem_cons, List.not_mem_nil, or_false] at hz
    rcases hz with rfl | rfl
    · kernel_rfl
    · kernel_rfl
  · intro h₁ F₁
    have F' := F.keeps F₁.keep
    have X' := X.keeps F₁.keep
    have sz : s.heap.objs.size ≤ h₁.objs.size := Nat.le_of_lt F₁.ns.lt
    refine wpAny_execs_cons (rest := []) (wpAny_Return_some (wpAny_Compare1 (wpAny_Call_NameR (wpAny_Name (wpAny_loadName_free (v := .ref 98) (c := k.cell + 111) (by kernel_rfl) (by kernel_rfl) (by kernel_rfl) ⟨_, F'.hcell, rfl⟩ ?_)))))
    obtain ⟨o98, fd98, l98, d98⟩ := order_there w.params
    refine callWith_def (o := o98) (fd := fd98) d98 (spliced_cons (Attribute_any_ (wpAny_Name (wpAny_loadName_local (v := .ref x) (by kernel_rfl) (by kernel_rfl) F₁.ns (by kernel_rfl) (get_obj F' (hx.keeps F₁.keep) fun u1 => ?_)))))
    refine spliced_cons (Attribute_any_ (wpAny_Name (wpAny_loadName_local (v := .ref y) (by kernel_rfl) (by kernel_rfl) F₁.ns (by kernel_rfl) (get_obj F' (hy.keeps F₁.keep) fun u2 => spliced_nil ⟨X'.X 98 _ l98, ?_⟩))))
    refine OC _ _ _ _ a b u1 u2 ((r.le (by lia : 9 ≤ 10)).deeper) X' la lb fun h' t' tk kp' sz' => ?_
    refine wpAny_Constant_int ?_
    refine P.lt_int ?_
    exact hq h' _ (fun b o e => kp' _ _ (F₁.keep _ _ e)) (Nat.le_trans sz sz')
theorem m_gt {f : Str → Str → Int} (OC : OrdC prog w f) {C : Nat} {k : KD} {x y : Addr} {a b : Str} (r : Rm A 10) (X : Bs w s.heap) (F : IsKd s.heap C k) (hx : IsI s.heap C x a) (hy : IsI s.heap C y b) (la : a.length ≤ 6) (lb : b.length ≤ 6)
    (hq : ∀ h' t', Kp s.heap h' → s.heap.objs.size ≤ h'.objs.size → Q (.bool (decide (f a b > 0))) { s with heap := h', toks := t' }) :
    wpAny (model prog w) A (call (.ref (k.f2 + 111)) [.ref x, .ref y]) Q E s := by
  refine wpAny_call ?_
  refine call_fn (fd := fdOf (kSt 4) [(Str.ofString "mycmp", k.cell + 111)] (.ref (k.c2 + 111)) (.ref (k.e2 + 111))) (body := fdBody (kSt 4)) (binds := [(Str.ofString "self", .ref x), (Str.ofString "other", .ref y)]) r.room F.hf2 rfl rfl rfl rfl ?_ (kf_nolimit X.X) (by kernel_rfl) ?_ ?_ rfl ?_
  · exact ⟨_, _, _, k.q2 + 1, rfl, F.hc2, rfl, by kernel_rfl⟩
  · show ∀ x ∈ (fdScope (kSt 4)).names, x.2 ≠ .cell
    decide
  · intro z hz
    simp only [List.mem_cons, List.not_mem_nil, or_false] at hz
    rcases hz with rfl | rfl
    · kernel_rfl
    · kernel_rfl
  · intro h₁ F₁
    have F' := F.keeps F₁.keep
    have X' := X.keeps F₁.keep
    have sz : s.heap.objs.size ≤ h₁.objs.size := Nat.le_of_lt F₁.ns.lt
    refine wpAny_execs_cons (rest := []) (wpAny_Return_some (wpAny_Compare1 (wpAny_Call_NameR (wpAny_Name (wpAny_loadName_free (v := .ref 98) (c := k.cell + 111) (by kernel_rfl) (by kernel_rfl) (by kernel_rfl) ⟨_, F'.hcell, rfl⟩ ?_)))))
    obtain ⟨o98, fd98, l98, d98⟩ := order_there w.params
    refine callWith_def (o := o98) (fd := fd98) d98 (spliced_cons (Attribute_any_ (wpAny_Name (wpAny_loadName_local (v := .ref x) (by kernel_rfl) (by kernel_rfl) F₁.ns (by kernel_rfl) (get_obj F' (hx.keeps F₁.keep) fun u1 => ?_)))))
    refine spliced_cons (Attribute_any_ (wpAny_Name (wpAny_loadName_local (v := .ref y) (by kernel_rfl) (by kernel_rfl) F₁.ns (by kernel_rfl) (get_obj F' (hy.keeps F₁.keep) fun u2 => spliced_nil ⟨X'.X 98 _ l98, ?_⟩))))
    refine OC _ _ _ _ a b u1 u2 ((r.le (by lia : 9 ≤ 10)).deeper) X' la lb fun h' t' tk kp' sz' => ?_
    refine wpAny_Constant_int ?_
    refine P.gt_int ?_
    exact hq h' _ (fun b o e => kp' _ _ (F₁.keep _ _ e)) (Nat.le_trans sz sz')
theorem m_eq {f : Str → Str → Int} (OC : OrdC prog w f) {C : Nat} {k : KD} {x y : Addr} {a b : Str} (r : Rm A 10) (X : Bs w s.heap) (F : IsKd s.heap C k) (hx : IsI s.heap C x a) (hy : IsI s.heap C y b) (la : a.length ≤ 6) (lb : b.length ≤ 6)
    (hq : ∀ h' t', Kp s.heap h' → s.heap.objs.size ≤ h'.objs.size → Q (.bool (f a b == 0)) { s with heap := h', toks := t' }) :
    wpAny (model prog w) A (call (.ref (k.f3 + 111)) [.ref x, .ref y]) Q E s := by
  refine wpAny_call ?_
  refine call_fn (fd := fdOf (kSt 5) [(Str.ofString "mycmp", k.cell + 111)] (.ref (k.c3 + 111)) (.ref (k.e3 + 111))) (body := fdBody (kSt 5)) (binds := [(Str.ofString "self", .ref x), (Str.ofString "other", .ref y)]) r.room F.hf3 rfl rfl rfl rfl ?_ (kf_nolimit X.X) (by kernel_rfl) ?_ ?_ rfl ?_
  · exact ⟨_, _, _, k.q3 + 1, rfl, F.hc3, rfl, by kernel_rfl⟩
  · show ∀ x ∈ (fdScope (kSt 5)).names, x.2 ≠ .cell
    decide
  · intro z hz
    simp only [List.mem_cons, List.not_mem_nil, or_false] at hz
    rcases hz with rfl | rfl
    · kernel_rfl
    · kernel_rfl
  · intro h₁ F₁
    have F' := F.keeps F₁.keep
    have X' := X.keeps F₁.keep
    have sz : s.heap.objs.size ≤ h₁.objs.size := Nat.le_of_lt F₁.ns.lt
    refine wpAny_execs_cons (rest := []) (wpAny_Return_some (wpAny_Compare1 (wpAny_Call_NameR (wpAny_Name (wpAny_loadName_free (v := .ref 98) (c := k.cell + 111) (by kernel_rfl) (by kernel_rfl) (by kernel_rfl) ⟨_, F'.hcell, rfl⟩ ?_)))))
    obtain ⟨o98, fd98, l98, d98⟩ := order_there w.params
    refine callWith_def (o := o98) (fd := fd98) d98 (spliced_cons (Attribute_any_ (wpAny_Name (wpAny_loadName_local (v := .ref x) (by kernel_rfl) (by kernel_rfl) F₁.ns (by kernel_rfl) (get_obj F' (hx.keeps F₁.keep) fun u1 => ?_)))))
    refine spliced_cons (Attribute_any_ (wpAny_Name (wpAny_loadName_local (v := .ref y) (by kernel_rfl) (by kernel_rfl) F₁.ns (by kernel_rfl) (get_obj F' (hy.keeps F₁.keep) fun u2 => spliced_nil ⟨X'.X 98 _ l98, ?_⟩))))
    refine OC _ _ _ _ a b u1 u2 ((r.le (by lia : 9 ≤ 10)).deeper) X' la lb fun h' t' tk kp' sz' => ?_
    refine wpAny_Constant_int ?_
    refine P.eq_int ?_
    exact hq h' _ (fun b o e => kp' _ _ (F₁.keep _ _ e)) (Nat.le_trans sz sz')
theorem m_le {f : Str → Str → Int} (OC : OrdC prog w f) {C : Nat} {k : KD} {x y : Addr} {a b : Str} (r : Rm A 10) (X : Bs w s.heap) (F : IsKd s.heap C k) (hx : IsI s.heap C x a) (hy : IsI s.heap C y b) (la : a.length ≤ 6) (lb : b.length ≤ 6)
    (hq : ∀ h' t', Kp s.heap h' → s.heap.objs.size ≤ h'.objs.size → Q (.bool (decide (f a b ≤ 0))) { s with heap := h', toks := t' }) :
    wpAny (model prog w) A (call (.ref (k.f4 + 111)) [.ref x, .ref y]) Q E s := by
  refine wpAny_call ?_
  refine call_fn (fd := fdOf (kSt 6) [(Str.ofString "mycmp", k.cell + 111)] (.ref (k.c4 + 111)) (.ref (k.e4 + 111))) (body := fdBody (kSt 6)) (binds := [(Str.ofString "self", .ref x), (Str.ofString "other", .ref y)]) r.room F.hf4 rfl rfl rfl rfl ?_ (kf_nolimit X.X) (by kernel_rfl) ?_ ?_ rfl ?_
  · exact ⟨_, _, _, k.q4 + 1, rfl, F.hc4, rfl, by kernel_rfl⟩
  · show ∀ x ∈ (fdScope (kSt 6)).names, x.2 ≠ .cell
    decide
  · intro z hz
    simp only [List.mem_cons, List.not_mem_nil, or_false] at hz
    rcases hz with rfl | rfl
    · kernel_rfl
    · kernel_rfl
  · intro h₁ F₁
    have F' := F.keeps F₁.keep
    have X' := X.keeps F₁.keep
    have sz : s.heap.objs.size ≤ h₁.objs.size := Nat.le_of_lt F₁.ns.lt
    refine wpAny_execs_cons (rest := []) (wpAny_Return_some (wpAny_Compare1 (wpAny_Call_NameR (wpAny_Name (wpAny_loadName_free (v := .ref 98) (c := k.cell + 111) (by kernel_rfl) (by kernel_rfl) (by kernel_rfl) ⟨_, F'.hcell, rfl⟩ ?_)))))
    obtain ⟨o98, fd98, l98, d98⟩ := order_there w.params
    refine callWith_def (o := o98) (fd := fd98) d98 (spliced_cons (Attribute_any_ (wpAny_Name (wpAny_loadName_local (v := .ref x) (by kernel_rfl) (by kernel_rfl) F₁.ns (by kernel_rfl) (get_obj F' (hx.keeps F₁.keep) fun u1 => ?_)))))
    refine spliced_cons (Attribute_any_ (wpAny_Name (wpAny_loadName_local (v := .ref y) (by kernel_rfl) (by kernel_rfl) F₁.ns (by kernel_rfl) (get_obj F' (hy.keeps F₁.keep) fun u2 => spliced_nil ⟨X'.X 98 _ l98, ?_⟩))))
    refine OC _ _ _ _ a b u1 u2 ((r.le (by lia : 9 ≤ 10)).deeper) X' la lb fun h' t' tk kp' sz' => ?_
    refine wpAny_Constant_int ?_
    refine P.le_int ?_
    exact hq h' _ (fun b o e => kp' _ _ (F₁.keep _ _ e)) (Nat.le_trans sz sz')
theorem m_ge {f : Str → Str → Int} (OC : OrdC prog w f) {C : Nat} {k : KD} {x y : Addr} {a b : Str} (r : Rm A 10) (X : Bs w s.heap) (F : IsKd s.heap C k) (hx : IsI s.heap C x a) (hy : IsI s.heap C y b) (la : a.length ≤ 6) (lb : b.length ≤ 6)
    (hq : ∀ h' t', Kp s.heap h' → s.heap.objs.size ≤ h'.objs.size → Q (.bool (decide (f a b ≥ 0))) { s with heap := h', toks := t' }) :
    wpAny (model prog w) A (call (.ref (k.f5 + 111)) [.ref x, .ref y]) Q E s := by
  refine wpAny_call ?_
  refine call_fn (fd := fdOf (kSt 7) [(Str.ofString "mycmp", k.cell + 111)] (.ref (k.c5 + 111)) (.ref (k.e5 + 111))) (body := fdBody (kSt 7)) (binds := [(Str.ofString "self", .ref x), (Str.ofString "other", .ref y)]) r.room F.hf5 rfl rfl rfl rfl ?_ (kf_nolimit X.X) (by kernel_rfl) ?_ ?_ rfl ?_
  · exact ⟨_, _, _, k.q5 + 1, rfl, F.hc5, rfl, by kernel_rfl⟩
  · show ∀ x ∈ (fdScope (kSt 7)).names, x.2 ≠ .cell
    decide
  · intro z hz
    simp only [List.mem_cons, List.not_mem_nil, or_false] at hz
    rcases hz with rfl | rfl
    · kernel_rfl
    · kernel_rfl
  · intro h₁ F₁
    have F' := F.keeps F₁.keep
    have X' := X.keeps F₁.keep
    have sz : s.heap.objs.size ≤ h₁.objs.size := Nat.le_of_lt F₁.ns.lt
    refine wpAny_execs_cons (rest := []) (wpAny_Return_some (wpAny_Compare1 (wpAny_Call_NameR (wpAny_Name (wpAny_loadName_free (v := .ref 98) (c := k.cell + 111) (by kernel_rfl) (by kernel_rfl) (by kernel_rfl) ⟨_, F'.hcell, rfl⟩ ?_)))))
    obtain ⟨o98, fd98, l98, d98⟩ := order_there w.params
    refine callWith_def (o := o98) (fd := fd98) d98 (spliced_cons (Attribute_any_ (wpAny_Name (wpAny_loadName_local (v := .ref x) (by kernel_rfl) (by kernel_rfl) F₁.ns (by kernel_rfl) (get_obj F' (hx.keeps F₁.keep) fun u1 => ?_)))))
    refine spliced_cons (Attribute_any_ (wpAny_Name (wpAny_loadName_local (v := .ref y) (by kernel_rfl) (by kernel_rfl) F₁.ns (by kernel_rfl) (get_obj F' (hy.keeps F₁.keep) fun u2 => spliced_nil ⟨X'.X 98 _ l98, ?_⟩))))
    refine OC _ _ _ _ a b u1 u2 ((r.le (by lia : 9 ≤ 10)).deeper) X' la lb fun h' t' tk kp' sz' => ?_
    refine wpAny_Constant_int ?_
    refine P.ge_int ?_
    exact hq h' _ (fun b o e => kp' _ _ (F₁.keep _ _ e)) (Nat.le_trans sz sz')
end
end
end Mine
namespace Mine
section
open PySem PySem.W PySem.W.X PyProof.Rows PySem.Spec PySem.Calls
set_option maxRecDepth 100000
set_option maxHeartbeats 0
set_option linter.unusedVariables false
set_option linter.unusedSimpArgs false
theorem ne_kind : builtinKind "object.__ne__" = some .slot := by decide +kernel
theorem ne_split : splitId "object.__ne__" = some ("object", "__ne__") := by decide +kernel
theorem ne_plain : plainId "object.__ne__" = true := by decide +kernel
theorem ne_entry : entryFor table "object.__ne__" = some Builtin.«object.__ne__» := entryFor_of_tree (by kernel_rfl)
theorem ne_args (a b : Value) : argsOk "object.__ne__" ⟨[a, b], []⟩ := by unfold argsOk; kernel_rfl
theorem ne_bind (self : Value) : bindSpecial (.builtin "object.__ne__") self = pure (.builtin "object.__ne__", [self]) :=
  (Slot.of (T := "object") (name := "__ne__") (owner := "object") (n := "__ne__") (by rw [typeLookup_type, builtinLookup_eq_fast]; kernel_rfl) (by decide +kernel) (by decide +kernel) (by decide +kernel)
    (.inl (by decide +kernel)) (by rw [isSubtype_type]; kernel_rfl)).bind self
section
variable {prog : Program} {w : World} {A : Around} {E : Value → Shared → Prop} {s : Shared}
theorem rc_same {op : CmpOp} {x y : Addr} {T : Value} {Q : Value → Shared → Prop} (hu : A.units < cLine) (hx : Looks (model prog w) s.heap (typeOf (.ref x)) T) (hy : Looks (model prog w) s.heap (typeOf (.ref y)) T)
    (h : wpAny (model prog w) A (tryCompare (.ref x) (cmpInfo op).2.1 (.ref y)) (fun r s' => ∃ v, r = some v ∧ Q v s') E s) : wpAny (model prog w) A (richCompare op (.ref x) (.ref y)) Q E s := by
  unfold richCompare
  simp only [oneThing_ref]
  refine wpAny_holding (wpAny_bind (wpAny_cRoomFor hu (wpAny_bind (hx.here (wpAny_bind (hy.here ?_))))))
  rw [if_neg (by rw [bne_self_eq_false]; exact Bool.false_ne_true)]
  refine wpAny_bind (wpAny_pure ?_)
  simp only [Bool.false_eq_true, if_false]
  refine wpAny_bind (wpAny_mono h (fun r s' z => ?_) fun _ _ e => e)
  obtain ⟨v, rfl, hq⟩ := z
  exact wpAny_pure hq
theorem try_fn {K : Frag} {x y C f : Addr} {ox : Obj} {od : Option Obj} {name : Str} {b : Bool} {Q : Option Value → Shared → Prop} (X : K.In s.heap) (I : InstAt s.heap x ox C od) (hs : findIn K (.ref C) name = some (some (.ref f))) (hf : isFn K (.ref f) = true)
    (h : wpAny (model prog w) A (call (.ref f) [.ref x, .ref y]) (W.BoolBack fun b => Q (some (.bool b))) E s) : wpAny (model prog w) A (tryCompare (.ref x) name (.ref y)) Q E s := by
  unfold tryCompare
  refine wpAny_bind (ifBound_K X I hs hf (wpAny_mono h (fun v s' hv => ?_) fun _ _ e => e))
  cases v <;> first | exact hv.elim | exact wpAny_pure hv
theorem inst_of {C : Nat} {x : Addr} {nm : Str} {h : Heap} (i : IsI h C x nm) : ∃ ox, InstAt h x ox (C + 111) (some emptyDict) := by
  obtain ⟨dx, u, e1, e2⟩ := i
  exact ⟨_, e1, rfl, rfl, e2⟩
theorem fn_lt {h : Heap} {C : Nat} {k : KD} (F : IsKd h C k) : isFn (KX C k) (.ref (k.f1 + 111)) = true := by
  unfold isFn typeIn; dsimp only; rw [lookup_valid (kx_valid F) (o := fnO 3 [(Str.ofString "mycmp", k.cell + 111)] (.ref (k.c1 + 111)) (.ref (k.e1 + 111))) (by simp [KX])]; rfl
theorem c_lt {f : Str → Str → Int} (OC : OrdC prog w f) {C : Nat} {x y : Addr} {a b : Str} {Q : Value → Shared → Prop} (r : Rm A 10) (X : Bs w s.heap) (HK : IsK s.heap C) (hx : IsI s.heap C x a) (hy : IsI s.heap C y b) (la : a.length ≤ 6) (lb : b.length ≤ 6)
    (hq : ∀ h' t', Kp s.heap h' → s.heap.objs.size ≤ h'.objs.size → Q (.bool (decide (f a b < 0))) { s with heap := h', toks := t' }) :
    wpAny (model prog w) A (compareOp .Lt (.ref x) (.ref y)) Q E s := by
  obtain ⟨k, F⟩ := HK
  obtain ⟨ox, I⟩ := inst_of hx
  obtain ⟨oy, J⟩ := inst_of hy
  show wpAny _ _ (richCompare .Lt (.ref x) (.ref y)) _ _ _
  refine rc_same r.units I.type J.type (try_fn (b := true) (kx_in F) I (f_lt F) (fn_lt F) ?_)
  exact m_lt OC r X F hx hy la lb fun h' t' k' z' => ⟨_, rfl, hq h' t' k' z'⟩
theorem fn_gt {h : Heap} {C : Nat} {k : KD} (F : IsKd h C k) : isFn (KX C k) (.ref (k.f2 + 111)) = true := by
  unfold isFn typeIn; dsimp only; rw [lookup_valid (kx_valid F) (o := fnO 4 [(Str.ofString "mycmp", k.cell + 111)] (.ref (k.c2 + 111)) (.ref (k.e2 + 111))) (by simp [KX])]; rfl
theorem c_gt {f : Str → Str → Int} (OC : OrdC prog w f) {C : Nat} {x y : Addr} {a b : Str} {Q : Value → Shared → Prop} (r : Rm A 10) (X : Bs w s.heap) (HK : IsK s.heap C) (hx : IsI s.heap C x a) (hy : IsI s.heap C y b) (la : a.length ≤ 6) (lb : b.length ≤ 6)
    (hq : ∀ h' t', Kp s.heap h' → s.heap.objs.size ≤ h'.objs.size → Q (.bool (decide (f a b > 0))) { s with heap := h', toks := t' }) :
    wpAny (model prog w) A (compareOp .Gt (.ref x) (.ref y)) Q E s := by
  obtain ⟨k, F⟩ := HK
  obtain ⟨ox, I⟩ := inst_of hx
  obtain ⟨oy, J⟩ := inst_of hy
  show wpAny _ _ (richCompare .Gt (.ref x) (.ref y)) _ _ _
  refine rc_same r.units I.type J.type (try_fn (b := true) (kx_in F) I (f_gt F) (fn_gt F) ?_)
  exact m_gt OC r X F hx hy la lb fun h' t' k' z' => ⟨_, rfl, hq h' t' k' z'⟩
theorem fn_eq {h : Heap} {C : Nat} {k : KD} (F : IsKd h C k) : isFn (KX C k) (.ref (k.f3 + 111)) = true := by
  unfold isFn typeIn; dsimp only; rw [lookup_valid (kx_valid F) (o := fnO 5 [(Str.ofString "mycmp", k.cell + 111)] (.ref (k.c3 + 111)) (.ref (k.e3 + 111))) (by simp [KX])]; rfl
theorem c_eq {f : Str → Str → Int} (OC : OrdC prog w f) {C : Nat} {x y : Addr} {a b : Str} {Q : Value → Shared → Prop} (r : Rm A 10) (X : Bs w s.heap) (HK : IsK s.heap C) (hx : IsI s.heap C x a) (hy : IsI s.heap C y b) (la : a.length ≤ 6) (lb : b.length ≤ 6)
    (hq : ∀ h' t', Kp s.heap h' → s.heap.objs.size ≤ h'.objs.size → Q (.bool (f a b == 0)) { s with heap := h', toks := t' }) :
    wpAny (model prog w) A (compareOp .Eq (.ref x) (.ref y)) Q E s := by
  obtain ⟨k, F⟩ := HK
  obtain ⟨ox, I⟩ := inst_of hx
  obtain ⟨oy, J⟩ := inst_of hy
  show wpAny _ _ (richCompare .Eq (.ref x) (.ref y)) _ _ _
  refine rc_same r.units I.type J.type (try_fn (b := true) (kx_in F) I (f_eq F) (fn_eq F) ?_)
  exact m_eq OC r X F hx hy la lb fun h' t' k' z' => ⟨_, rfl, hq h' t' k' z'⟩
theorem fn_le {h : Heap} {C : Nat} {k : KD} (F : IsKd h C k) : isFn (KX C k) (.ref (k.f4 + 111)) = true := by
  unfold isFn typeIn; dsimp only; rw [lookup_valid (kx_valid F) (o := fnO 6 [(Str.ofString "mycmp", k.cell + 111)] (.ref (k.c4 + 111)) (.ref (k.e4 + 111))) (by simp [KX])]; rfl
theorem c_le {f : Str → Str → Int} (OC : OrdC prog w f) {C : Nat} {x y : Addr} {a b : Str} {Q : Value → Shared → Prop} (r : Rm A 10) (X : Bs w s.heap) (HK : IsK s.heap C) (hx : IsI s.heap C x a) (hy : IsI s.heap C y b) (la : a.length ≤ 6) (lb : b.length ≤ 6)
    (hq : ∀ h' t', Kp s.heap h' → s.heap.objs.size ≤ h'.objs.size → Q (.bool (decide (f a b ≤ 0))) { s with heap := h', toks := t' }) :
    wpAny (model prog w) A (compareOp .LtE (.ref x) (.ref y)) Q E s := by
  obtain ⟨k, F⟩ := HK
  obtain ⟨ox, I⟩ := inst_of hx
  obtain ⟨oy, J⟩ := inst_of hy
  show wpAny _ _ (richCompare .LtE (.ref x) (.ref y)) _ _ _
  refine rc_same r.units I.type J.type (try_fn (b := true) (kx_in F) I (f_le F) (fn_le F) ?_)
  exact m_le OC r X F hx hy la lb fun h' t' k' z' => ⟨_, rfl, hq h' t' k' z'⟩
theorem fn_ge {h : Heap} {C : Nat} {k : KD} (F : IsKd h C k) : isFn (KX C k) (.ref (k.f5 + 111)) = true := by
  unfold isFn typeIn; dsimp only; rw [lookup_valid (kx_valid F) (o := fnO 7 [(Str.ofString "mycmp", k.cell + 111)] (.ref (k.c5 + 111)) (.ref (k.e5 + 111))) (by simp [KX])]; rfl
theorem c_ge {f : Str → Str → Int} (OC : OrdC prog w f) {C : Nat} {x y : Addr} {a b : Str} {Q : Value → Shared → Prop} (r : Rm A 10) (X : Bs w s.heap) (HK : IsK s.heap C) (hx : IsI s.heap C x a) (hy : IsI s.heap C y b) (la : a.length ≤ 6) (lb : b.length ≤ 6)
    (hq : ∀ h' t', Kp s.heap h' → s.heap.objs.size ≤ h'.objs.size → Q (.bool (decide (f a b ≥ 0))) { s with heap := h', toks := t' }) :
    wpAny (model prog w) A (compareOp .GtE (.ref x) (.ref y)) Q E s := by
  obtain ⟨k, F⟩ := HK
  obtain ⟨ox, I⟩ := inst_of hx
  obtain ⟨oy, J⟩ := inst_of hy
  show wpAny _ _ (richCompare .GtE (.ref x) (.ref y)) _ _ _
  refine rc_same r.units I.type J.type (try_fn (b := true) (kx_in F) I (f_ge F) (fn_ge F) ?_)
  exact m_ge OC r X F hx hy la lb fun h' t' k' z' => ⟨_, rfl, hq h' t' k' z'⟩
theorem c_ne {f : Str → Str → Int} (OC : OrdC prog w f) {C : Nat} {x y : Addr} {a b : Str} {Q : Value → Shared → Prop} (r : Rm A 11) (X : Bs w s.heap) (HK : IsK s.heap C) (hx : IsI s.heap C x a) (hy : IsI s.heap C y b) (la : a.length ≤ 6) (lb : b.length ≤ 6)
    (hq : ∀ h' t', Kp s.heap h' → s.heap.objs.size ≤ h'.objs.size → Q (.bool (!(f a b == 0))) { s with heap := h', toks := t' }) :
    wpAny (model prog w) A (compareOp .NotEq (.ref x) (.ref y)) Q E s := by
  obtain ⟨k, F⟩ := HK
  obtain ⟨ox, I⟩ := inst_of hx
  obtain ⟨oy, J⟩ := inst_of hy
  show wpAny _ _ (richCompare .NotEq (.ref x) (.ref y)) _ _ _
  refine rc_same r.units I.type J.type ?_
  unfold tryCompare callSpecialIfBound? bindSpecialIfBound?
  refine wpAny_bind (wpAny_holding (wpAny_bind (wpAny_bind (wpAny_bind (I.type.here ((looks_findIn (kx_in F) (f_ne F)).here ?_))))))
  refine wpAny_bind (wpAny_askSetting (wpAny_ite ?_))
  rw [ne_bind]
  have fin : wpAny (model prog w) A (call (.builtin "object.__ne__") ([.ref x] ++ [.ref y]) >>= fun v => pure (some v)) (fun r s' => wpAny (model prog w) A (match r with | some .notImplemented | none => pure none | some v => pure (some v)) (fun r s' => ∃ v, r = some v ∧ Q v s') E s') E s := by
    refine wpAny_bind (wpAny_call ?_)
    have sub : Looks (model prog w) s.heap (isInstance (.ref x) (.type "object")) true := I.type.andThen (looks_mroIn (kx_in F) (by unfold mroIn; rw [cls_C F]; rfl))
    refine codeAny_call_builtin ne_plain ne_entry (@check_slot (model prog w) _ _ s "object.__ne__" "object" "__ne__" (.ref x) [.ref y] [] _ ne_kind ne_split sub (ne_args (.ref x) (.ref y)) ?_)
    unfold Builtin.«object.__ne__»
    refine wpAny_bind (m := slotArgs "__ne__" 1 ⟨[.ref x, .ref y], []⟩) (wpAny_pure ?_)
    refine wpAny_bind (wpAny_cRoomFor (r.le (by lia : 11 ≤ 11)).in1.units ?_)
    refine wpAny_bind (ifBound_K (kx_in F) I (f_eq F) (fn_eq F) ?_)
    refine m_eq OC r.in1 X F hx hy la lb fun h' t' k' z' => ?_
    dsimp only
    refine wpAny_bind (wpAny_truthy_bool (wpAny_pure ?_))
    exact wpAny_pure (wpAny_pure ⟨_, rfl, hq h' t' k' z'⟩)
  split
  · exact wpAny_bind (wpAny_pure (wpAny_pure (by exact fin)))
  · exact wpAny_tryCatch (wpAny_bind (wpAny_pure (wpAny_pure (by exact fin))))
end
end
end Mine
namespace Mine
section
open PySem PySem.W PySem.W.X PyProof.Rows PySem.Spec PySem.Calls
set_option maxRecDepth 100000
set_option maxHeartbeats 0
set_option linter.unusedVariables false
set_option linter.unusedSimpArgs false
noncomputable def gSt (i : Nat) : Stmt := Challenge.pw_mg0016_01.main.body.getD i (.Pass ⟨0, 0, 0, 0⟩)
noncomputable def fdName : Stmt → Str
  | .FunctionDef n _ _ _ _ _ _ _ _ _ => n
  | _ => Str.ofString ""
noncomputable def fdArgs : Stmt → Arguments
  | .FunctionDef _ a _ _ _ _ _ _ _ _ => a
  | _ => ⟨[], [], none, [], [], none, []⟩
noncomputable def fdTop (i : Nat) (cda : Addr) (pm : Value) : FuncData := { name := fdName (gSt i), qualname := fdName (gSt i), params := fdArgs (gSt i), body := .stmts (fdBody (gSt i)), scope := fdScope (gSt i), globals := 3, closure := [], defaults := .none, kwdefaults := .none, pyModule := pm, code := .ref cda }
/-- the frame of the top's i-th def -/
noncomputable def tEnv (i a cda L : Nat) : Env := { scope := fdScope (gSt i), locals := L, globals := 3, cells := [], qual := fdName (gSt i) ++ ".<locals>.", func := some a, code := .ref cda, frame := some L, builtins := 0 }
section
variable {w : World} {A : Around} {E : Value → Shared → Prop} {R : Result → Shared → Prop} {s : Shared} {i a cda L : Nat}
theorem call_top {co : Obj} {vs : Array Value} {tq : Tok} {pm : Value} {args : List Value} {binds : List (Str × Value)} (n : Nat) (r : Rm A n) (X : Bs w s.heap)
    (e : (KF w.params).lookup a = some ⟨.type "function", none, .func (fdTop i cda pm), #[]⟩) (lc : (KF w.params).lookup cda = some co) (dc : co.data = .fields vs) (vq : vs[1]? = some (.str (fdName (gSt i)) tq))
    (hbind : bindArgs (fdTop i cda pm) ⟨args, []⟩ = pure binds) (hs : (fdScope (gSt i)).isCoroutine = false ∧ (fdScope (gSt i)).isGenerator = false ∧ (fdScope (gSt i)).kind = .function) (hcell : ∀ x ∈ (fdScope (gSt i)).names, x.2 ≠ .cell)
    (hloc : (binds.map (·.1)).all (fun x => decide ((fdScope (gSt i)).names.lookup x = some .local)) = true)
    (h : ∀ h₁, Fr s.heap s.heap.objs.size h₁ (fun x => binds.reverse.lookup x) → Bs w h₁ → s.heap.objs.size ≤ h₁.objs.size →
      wpAny (model Challenge.rw_mg0016_01.prog w) (A.deeper (tEnv i a cda s.heap.objs.size)) (execs (fdBody (gSt i)) (tEnv i a cda s.heap.objs.size))
        (fun f s' => R (.ok (.ret (match f with | .ret v => v | _ => .none))) s') (fun _ _ => False) { s with heap := h₁, toks := s.toks + binds.length }) :
    codeAny (model Challenge.rw_mg0016_01.prog w) A (.call (.ref a) ⟨args, []⟩) R s :=
  call_fn (fd := fdTop i cda pm) (body := fdBody (gSt i)) r.room (X.X _ _ e) rfl hs.1 hs.2.1 rfl ⟨cda, co, vs, tq, rfl, X.X _ _ lc, dc, vq⟩ (kf_nolimit X.X) hbind hcell
    (fun z hz => of_decide_eq_true (List.all_eq_true.mp hloc z.1 (List.mem_map_of_mem hz))) hs.2.2 (fun h₁ F₁ => h h₁ F₁ (X.keeps F₁.keep) (Nat.le_of_lt F₁.ns.lt))
variable {M : Model} {Q : Value → Shared → Prop} {h₀ : Heap} {m : Str → Option Value}
/-- a local name -/
theorem nmL {x : Str} {pos : Pos} {v : Value} (F : Fr h₀ L s.heap m) (h : Q v s) (hk : (fdScope (gSt i)).kind = .function := by kernel_rfl) (hl : (tEnv i a cda L).kindOf x = some .local := by kernel_rfl) (hd : (x == ("__debug__" : Str)) = false := by kernel_rfl) (hv : m x = some v := by kernel_rfl) : wpAny M A (eval (.Name x pos) (tEnv i a cda L)) Q E s :=
  wpAny_Name (wpAny_loadName_local hk hl F.ns hv h) hd
/-- a name of the module -/
theorem nmG {x : Str} {pos : Pos} {v : Value} (X : Bs w s.heap) (h : Q v s) (hk : (fdScope (gSt i)).kind = .function := by kernel_rfl) (hl : (tEnv i a cda L).kindOf x = some .globalImplicit := by kernel_rfl) (hd : (x == ("__debug__" : Str)) = false := by kernel_rfl)
    (hv : nsIn (KF w.params) 3 x = some (some v) := by kernel_rfl) : wpAny M A (eval (.Name x pos) (tEnv i a cda L)) Q E s :=
  Name_function_global hk hl (by
    unfold loadGlobal
    exact wpAny_bind ((looks_nsIn X.X hv).here (wpAny_pure h))) hd
/-- a built-in name -/
theorem nmB {x : Str} {pos : Pos} {v : Value} (X : Bs w s.heap) (h : Q v s) (hk : (fdScope (gSt i)).kind = .function := by kernel_rfl) (hl : (tEnv i a cda L).kindOf x = some .globalImplicit := by kernel_rfl) (hd : (x == ("__debug__" : Str)) = false := by kernel_rfl)
    (hn : nsIn (KF w.params) 3 x = some none := by kernel_rfl) (hx : x ≠ "__name__" := by decide +kernel) (hv : bootBuiltins x = some v := by kernel_rfl) : wpAny M A (eval (.Name x pos) (tEnv i a cda L)) Q E s :=
  Name_function_global hk hl (by
    obtain ⟨mb, hb, e⟩ := X.B
    unfold loadGlobal
    refine wpAny_bind ((looks_nsIn X.X hn).here ?_)
    dsimp only
    refine wpAny_bind (wpAny_nsGet hb ?_)
    rw [e x hx, hv]
    exact wpAny_pure h) hd
/-- a built-in called upon places -/
theorem cwB {pos : Pos} {id : String} {args : List (Bool × Sem Value)} {x : Sem Value} {rest : List (Bool × Sem Value)}
    (h : wpAny M A (spliced args) (fun vs s₁ => wpAny M A (call (.builtin id) vs) Q E s₁) E s) (ha : args = (false, x) :: rest := by rfl) (hplain : args.any (·.1) = false := by kernel_rfl) : wpAny M A (callWith pos (.builtin id) [] args []) Q E s := by
  subst ha
  exact callWith_builtin hplain (evalArgs_plain h)
/-- a def of the module called upon places -/
theorem cwF {pos : Pos} {f : Addr} {o : Obj} {fd : FuncData} {args : List (Bool × Sem Value)} {x : Sem Value} {rest : List (Bool × Sem Value)}
    (h : wpAny M A (spliced args) (fun vs s₁ => Bs w s₁.heap ∧ wpAny M A (call (.ref f) vs) Q E s₁) E s) (e : (KF w.params).lookup f = some o := by rfl) (hd : o.data = .func fd := by rfl) (ha : args = (false, x) :: rest := by rfl) : wpAny M A (callWith pos (.ref f) [] args []) Q E s := by
  subst ha
  exact callWith_function (o := o) (fd := fd) (evalArgs_plain (wpAny_mono h (fun vs s₁ h₁ => ⟨⟨h₁.1.X _ _ e, hd⟩, h₁.2⟩) fun _ _ x => x))
end
section
variable {w : World} {A : Around} {E : Value → Shared → Prop} {Q : Value → Shared → Prop} {s : Shared}
/-- the end of a call: what stood stands -/
noncomputable abbrev Bk (s : Shared) (Q : Value → Shared → Prop) (v : Tok → Value) : Prop := ∀ h' t' tk, Kp s.heap h' → s.heap.objs.size ≤ h'.objs.size → Q (v tk) { s with heap := h', toks := t' }
noncomputable abbrev cm : Value := .str (Str.ofString "cpy313.curses.ascii") 198
noncomputable abbrev lm : Value := .str (Str.ofString "law_mg0016_01") 249
noncomputable abbrev code0 (c : Str) : Nat := c.cps.getD 0 0
theorem ctoi {c : Str} {u : Tok} (r : Rm A 1) (X : Bs w s.heap) (h1 : c.length = 1) (hq : Bk s Q fun tk => .int (code0 c : Nat) tk) :
    wpAny (model Challenge.rw_mg0016_01.prog w) A (call (.ref 28) [.str c u]) Q E s := by
  refine wpAny_call ?_
  refine call_top (i := 3) (cda := 27) (pm := cm) (binds := [(Str.ofString "c", .str c u)]) 1 r X (by kernel_rfl) rfl rfl (tq := 201) (by kernel_rfl) (by kernel_rfl) (by decide +kernel) (by decide +kernel) (by kernel_rfl) fun h₁ F X sz => ?_
  refine wpAny_execs_cons (rest := []) (wpAny_If (isTrue_plain (wpAny_Call_NameR (nmB (v := .builtin "isinstance") X ?_)) (by kernel_rfl)))
  refine cwB (spliced_cons (nmL (v := .str c u) F (spliced_cons (nmB (v := .type "str") X (spliced_nil ?_)))))
  refine IsiPair.str_str (wpAny_truthy_bool ?_)
  rw [if_pos rfl]
  refine wpAny_execs_cons (rest := []) (wpAny_Return_some (wpAny_Call_NameR (nmB (v := .builtin "ord") X ?_)))
  refine cwB (spliced_cons (nmL (v := .str c u) F (spliced_nil ?_)))
  refine ord_of_one h1 ?_
  exact hq h₁ _ _ F.keep sz
theorem isdig {c : Str} {u : Tok} (r : Rm A 2) (X : Bs w s.heap) (h1 : c.length = 1) (hq : Bk s Q fun _ => .bool (decide (48 ≤ code0 c) && decide (code0 c ≤ 57))) :
    wpAny (model Challenge.rw_mg0016_01.prog w) A (call (.ref 42) [.str c u]) Q E s := by
  refine wpAny_call ?_
  refine call_top (i := 5) (cda := 41) (pm := cm) (binds := [(Str.ofString "c", .str c u)]) 2 r X (by kernel_rfl) rfl rfl (tq := 215) (by kernel_rfl) (by kernel_rfl) (by decide +kernel) (by decide +kernel) (by kernel_rfl) fun h₁ F X sz => ?_
  refine wpAny_execs_cons (rest := []) (wpAny_Return_some (Compare_chain (wpAny_Constant_int ?_)))
  refine chain_link (wpAny_Call_NameR (nmG (v := .ref 28) X (cwF (w := w) (spliced_cons (nmL (v := .str c u) F (spliced_nil ⟨X, ctoi r.deeper X h1 fun h₂ t₂ tk k₂ z₂ => ?_⟩))))))
  refine P.le_int (wpAny_truthy_bool ?_)
  have e1 : decide ((48 : Int) ≤ ((code0 c : Nat) : Int)) = decide (48 ≤ code0 c) := decide_eq_decide.mpr (by omega)
  have e2 : decide (((code0 c : Nat) : Int) ≤ 57) = decide (code0 c ≤ 57) := decide_eq_decide.mpr (by omega)
  have fin := hq h₂
  rw [e1]
  cases q : decide (48 ≤ code0 c) with
  | true =>
    rw [if_pos rfl]
    refine chain_last (wpAny_Constant_int (P.le_int ?_))
    rw [e2]
    rw [q, Bool.true_and] at fin
    exact fin _ 0 (fun b o e => k₂ _ _ (F.keep _ _ e)) (Nat.le_trans sz z₂)
  | false =>
    rw [if_neg Bool.false_ne_true]
    rw [q, Bool.false_and] at fin
    exact fin _ 0 (fun b o e => k₂ _ _ (F.keep _ _ e)) (Nat.le_trans sz z₂)
theorem islow {c : Str} {u : Tok} (r : Rm A 2) (X : Bs w s.heap) (h1 : c.length = 1) (hq : Bk s Q fun _ => .bool (decide (97 ≤ code0 c) && decide (code0 c ≤ 122))) :
    wpAny (model Challenge.rw_mg0016_01.prog w) A (call (.ref 49) [.str c u]) Q E s := by
  refine wpAny_call ?_
  refine call_top (i := 6) (cda := 48) (pm := cm) (binds := [(Str.ofString "c", .str c u)]) 2 r X (by kernel_rfl) rfl rfl (tq := 222) (by kernel_rfl) (by kernel_rfl) (by decide +kernel) (by decide +kernel) (by kernel_rfl) fun h₁ F X sz => ?_
  refine wpAny_execs_cons (rest := []) (wpAny_Return_some (Compare_chain (wpAny_Constant_int ?_)))
  refine chain_link (wpAny_Call_NameR (nmG (v := .ref 28) X (cwF (w := w) (spliced_cons (nmL (v := .str c u) F (spliced_nil ⟨X, ctoi r.deeper X h1 fun h₂ t₂ tk k₂ z₂ => ?_⟩))))))
  refine P.le_int (wpAny_truthy_bool ?_)
  have e1 : decide ((97 : Int) ≤ ((code0 c : Nat) : Int)) = decide (97 ≤ code0 c) := decide_eq_decide.mpr (by omega)
  have e2 : decide (((code0 c : Nat) : Int) ≤ 122) = decide (code0 c ≤ 122) := decide_eq_decide.mpr (by omega)
  have fin := hq h₂
  rw [e1]
  cases q : decide (97 ≤ code0 c) with
  | true =>
    rw [if_pos rfl]
    refine chain_last (wpAny_Constant_int (P.le_int ?_))
    rw [e2]
    rw [q, Bool.true_and] at fin
    exact fin _ 0 (fun b o e => k₂ _ _ (F.keep _ _ e)) (Nat.le_trans sz z₂)
  | false =>
    rw [if_neg Bool.false_ne_true]
    rw [q, Bool.false_and] at fin
    exact fin _ 0 (fun b o e => k₂ _ _ (F.keep _ _ e)) (Nat.le_trans sz z₂)
theorem isupp {c : Str} {u : Tok} (r : Rm A 2) (X : Bs w s.heap) (h1 : c.length = 1) (hq : Bk s Q fun _ => .bool (decide (65 ≤ code0 c) && decide (code0 c ≤ 90))) :
    wpAny (model Challenge.rw_mg0016_01.prog w) A (call (.ref 56) [.str c u]) Q E s := by
  refine wpAny_call ?_
  refine call_top (i := 7) (cda := 55) (pm := cm) (binds := [(Str.ofString "c", .str c u)]) 2 r X (by kernel_rfl) rfl rfl (tq := 229) (by kernel_rfl) (by kernel_rfl) (by decide +kernel) (by decide +kernel) (by kernel_rfl) fun h₁ F X sz => ?_
  refine wpAny_execs_cons (rest := []) (wpAny_Return_some (Compare_chain (wpAny_Constant_int ?_)))
  refine chain_link (wpAny_Call_NameR (nmG (v := .ref 28) X (cwF (w := w) (spliced_cons (nmL (v := .str c u) F (spliced_nil ⟨X, ctoi r.deeper X h1 fun h₂ t₂ tk k₂ z₂ => ?_⟩))))))
  refine P.le_int (wpAny_truthy_bool ?_)
  have e1 : decide ((65 : Int) ≤ ((code0 c : Nat) : Int)) = decide (65 ≤ code0 c) := decide_eq_decide.mpr (by omega)
  have e2 : decide (((code0 c : Nat) : Int) ≤ 90) = decide (code0 c ≤ 90) := decide_eq_decide.mpr (by omega)
  have fin := hq h₂
  rw [e1]
  cases q : decide (65 ≤ code0 c) with
  | true =>
    rw [if_pos rfl]
    refine chain_last (wpAny_Constant_int (P.le_int ?_))
    rw [e2]
    rw [q, Bool.true_and] at fin
    exact fin _ 0 (fun b o e => k₂ _ _ (F.keep _ _ e)) (Nat.le_trans sz z₂)
  | false =>
    rw [if_neg Bool.false_ne_true]
    rw [q, Bool.false_and] at fin
    exact fin _ 0 (fun b o e => k₂ _ _ (F.keep _ _ e)) (Nat.le_trans sz z₂)
end
end
end Mine
namespace Mine
section
open PySem PySem.W PySem.W.X PyProof.Rows PySem.Spec PySem.Calls
set_option maxRecDepth 100000
set_option maxHeartbeats 0
set_option linter.unusedVariables false
set_option linter.unusedSimpArgs false
theorem Kp.trans {h h' h'' : Heap} (a : Kp h h') (b : Kp h' h'') : Kp h h'' := fun x o e => b _ _ (a _ _ e)
noncomputable def dig (c : Str) : Bool := decide (48 ≤ code0 c) && decide (code0 c ≤ 57)
noncomputable def upp (c : Str) : Bool := decide (65 ≤ code0 c) && decide (code0 c ≤ 90)
noncomputable def low (c : Str) : Bool := decide (97 ≤ code0 c) && decide (code0 c ≤ 122)
/-- the rank of a sign -/
noncomputable def rankV (c : Str) : Int := if dig c then 50 else if upp c || low c then 1000 + ((code0 c % 32 : Nat) : Int) else if decide (code0 c > 127) then 2000 + ((code0 c : Nat) : Int) else ((code0 c : Nat) : Int)
section
variable {w : World} {A : Around} {E : Value → Shared → Prop} {Q : Value → Shared → Prop} {s : Shared}
theorem isalph {c : Str} {u : Tok} (r : Rm A 3) (X : Bs w s.heap) (h1 : c.length = 1) (hq : Bk s Q fun _ => .bool (upp c || low c)) :
    wpAny (model Challenge.rw_mg0016_01.prog w) A (call (.ref 35) [.str c u]) Q E s := by
  refine wpAny_call ?_
  refine call_top (i := 4) (cda := 34) (pm := cm) (binds := [(Str.ofString "c", .str c u)]) 3 r X (by kernel_rfl) rfl rfl (tq := 208) (by kernel_rfl) (by kernel_rfl) (by decide +kernel) (by decide +kernel) (by kernel_rfl) fun h₁ F X sz => ?_
  refine wpAny_execs_cons (rest := []) (wpAny_Return_some (BoolOp_or (wpAny_Call_NameR (nmG (v := .ref 56) X (cwF (w := w) (spliced_cons (nmL (v := .str c u) F (spliced_nil ⟨X, isupp r.deeper X h1 fun h₂ t₂ tk k₂ z₂ => ?_⟩))))))))
  refine wpAny_truthy_bool ?_
  have fin := hq
  show if upp c = true then _ else _
  cases q : upp c with
  | true =>
    rw [if_pos rfl]
    rw [q] at fin
    show Q (.bool (upp c)) _
    rw [q]
    exact fin h₂ _ 0 (Kp.trans F.keep k₂) (Nat.le_trans sz z₂)
  | false =>
    rw [if_neg Bool.false_ne_true]
    rw [q, Bool.false_or] at fin
    have F₂ := F.kept k₂
    refine BoolOp_one (wpAny_Call_NameR (nmG (v := .ref 49) (X.keeps k₂) (cwF (w := w) (spliced_cons (nmL (v := .str c u) F₂ (spliced_nil ⟨X.keeps k₂, islow r.deeper (X.keeps k₂) h1 fun h₃ t₃ tk₃ k₃ z₃ => ?_⟩))))))
    exact fin h₃ _ 0 (Kp.trans (Kp.trans F.keep k₂) k₃) (Nat.le_trans (Nat.le_trans sz z₂) z₃)
theorem ismet {c : Str} {u : Tok} (r : Rm A 2) (X : Bs w s.heap) (h1 : c.length = 1) (hq : Bk s Q fun _ => .bool (decide (code0 c > 127))) :
    wpAny (model Challenge.rw_mg0016_01.prog w) A (call (.ref 63) [.str c u]) Q E s := by
  refine wpAny_call ?_
  refine call_top (i := 8) (cda := 62) (pm := cm) (binds := [(Str.ofString "c", .str c u)]) 2 r X (by kernel_rfl) rfl rfl (tq := 236) (by kernel_rfl) (by kernel_rfl) (by decide +kernel) (by decide +kernel) (by kernel_rfl) fun h₁ F X sz => ?_
  refine wpAny_execs_cons (rest := []) (wpAny_Return_some (wpAny_Compare1 (wpAny_Call_NameR (nmG (v := .ref 28) X (cwF (w := w) (spliced_cons (nmL (v := .str c u) F (spliced_nil ⟨X, ctoi r.deeper X h1 fun h₂ t₂ tk k₂ z₂ => ?_⟩))))))))
  refine wpAny_Constant_int (P.gt_int ?_)
  have e : decide (((code0 c : Nat) : Int) > 127) = decide (code0 c > 127) := decide_eq_decide.mpr (by lia)
  rw [e]
  exact hq h₂ _ 0 (Kp.trans F.keep k₂) (Nat.le_trans sz z₂)
theorem and31 (n : Nat) : Builtin.bitAnd (n : Int) 31 = ((n % 32 : Nat) : Int) := by
  show ((n &&& 31 : Nat) : Int) = _
  rw [show (31 : Nat) = 2 ^ 5 - 1 from rfl, Nat.and_two_pow_sub_one_eq_mod]
theorem ctrl_ {c : Str} {u : Tok} (r : Rm A 2) (X : Bs w s.heap) (h1 : c.length = 1) (hq : Bk s Q fun tk => .str ⟨#[code0 c % 32]⟩ tk) :
    wpAny (model Challenge.rw_mg0016_01.prog w) A (call (.ref 70) [.str c u]) Q E s := by
  refine wpAny_call ?_
  refine call_top (i := 9) (cda := 69) (pm := cm) (binds := [(Str.ofString "c", .str c u)]) 2 r X (by kernel_rfl) rfl rfl (tq := 243) (by kernel_rfl) (by kernel_rfl) (by decide +kernel) (by decide +kernel) (by kernel_rfl) fun h₁ F X sz => ?_
  refine wpAny_execs_cons (rest := []) (wpAny_If (isTrue_plain (wpAny_Call_NameR (nmB (v := .builtin "isinstance") X ?_)) (by kernel_rfl)))
  refine cwB (spliced_cons (nmL (v := .str c u) F (spliced_cons (nmB (v := .type "str") X (spliced_nil ?_)))))
  refine IsiPair.str_str (wpAny_truthy_bool ?_)
  rw [if_pos rfl]
  refine wpAny_execs_cons (rest := []) (wpAny_Return_some (wpAny_Call_NameR (nmB (v := .builtin "chr") X ?_)))
  refine cwB (spliced_cons (wpAny_BinOp (wpAny_Call_NameR (nmG (v := .ref 28) X (cwF (w := w) (spliced_cons (nmL (v := .str c u) F (spliced_nil ⟨X, ctoi r.deeper X h1 fun h₂ t₂ tk k₂ z₂ => ?_⟩))))))))
  refine wpAny_Constant_int (and_int (spliced_nil ?_))
  rw [and31]
  refine chr_of_range (by lia) (by lia) ?_
  exact hq h₂ _ _ (Kp.trans F.keep k₂) (Nat.le_trans sz z₂)
theorem rank_ {c : Str} {u : Tok} (r : Rm A 4) (X : Bs w s.heap) (h1 : c.length = 1) (hq : Bk s Q fun tk => .int (rankV c) tk) :
    wpAny (model Challenge.rw_mg0016_01.prog w) A (call (.ref 84) [.str c u]) Q E s := by
  refine wpAny_call ?_
  refine call_top (i := 12) (cda := 83) (pm := lm) (binds := [(Str.ofString "sign", .str c u)]) 4 r X (by kernel_rfl) rfl rfl (tq := 260) (by kernel_rfl) (by kernel_rfl) (by decide +kernel) (by decide +kernel) (by kernel_rfl) fun h₁ F X sz => ?_
  have fin := hq
  refine wpAny_execs_cons (wpAny_If (isTrue_plain (wpAny_Call_NameR (nmG (v := .ref 42) X (cwF (w := w) (spliced_cons (nmL (v := .str c u) F (spliced_nil ⟨X, isdig (r.le (by lia : 3 ≤ 4)).deeper X h1 fun h₂ t₂ tk k₂ z₂ => ?_⟩)))))) (by kernel_rfl)))
  refine wpAny_truthy_bool ?_
  show if dig c = true then _ else _
  cases q : dig c with
  | true =>
    rw [if_pos rfl]
    refine wpAny_execs_cons (rest := []) (wpAny_Return_some (wpAny_Constant_int ?_))
    unfold rankV at fin
    rw [q, if_pos rfl] at fin
    exact fin h₂ _ _ (Kp.trans F.keep k₂) (Nat.le_trans sz z₂)
  | false =>
    rw [if_neg Bool.false_ne_true]
    unfold rankV at fin
    rw [q, if_neg Bool.false_ne_true] at fin
    refine wpAny_execs_nil ?_
    have F₂ := F.kept k₂
    have X₂ := X.keeps k₂
    refine wpAny_execs_cons (wpAny_If (isTrue_plain (wpAny_Call_NameR (nmG (v := .ref 35) X₂ (cwF (w := w) (spliced_cons (nmL (v := .str c u) F₂ (spliced_nil ⟨X₂, isalph r.deeper X₂ h1 fun h₃ t₃ tk₃ k₃ z₃ => ?_⟩)))))) (by kernel_rfl)))
    refine wpAny_truthy_bool ?_
    have F₃ := F₂.kept k₃
    have X₃ := X₂.keeps k₃
    cases q2 : upp c || low c with
    | true =>
      rw [if_pos rfl]
      rw [q2, if_pos rfl] at fin
      refine wpAny_execs_cons (rest := []) (wpAny_Return_some (wpAny_BinOp (wpAny_Constant_int ?_)))
      refine wpAny_Call_NameR (nmB (v := .builtin "ord") X₃ (cwB (spliced_cons (wpAny_Call_NameR (nmG (v := .ref 70) X₃ (cwF (w := w) (spliced_cons (nmL (v := .str c u) F₃ (spliced_nil ⟨X₃, ctrl_ (r.le (by lia : 3 ≤ 4)).deeper X₃ h1 fun h₄ t₄ tk₄ k₄ z₄ => ?_⟩)))))))))
      refine spliced_nil (P.ord_of_char (P.add_int ?_))
      exact fin h₄ _ _ (Kp.trans (Kp.trans (Kp.trans F.keep k₂) k₃) k₄) (Nat.le_trans (Nat.le_trans (Nat.le_trans sz z₂) z₃) z₄)
    | false =>
      rw [if_neg Bool.false_ne_true]
      rw [q2, if_neg Bool.false_ne_true] at fin
      refine wpAny_execs_nil ?_
      refine wpAny_execs_cons (rest := []) (wpAny_Return_some (IfExp_ (isTrue_plain (wpAny_Call_NameR (nmG (v := .ref 63) X₃ (cwF (w := w) (spliced_cons (nmL (v := .str c u) F₃ (spliced_nil ⟨X₃, ismet (r.le (by lia : 3 ≤ 4)).deeper X₃ h1 fun h₄ t₄ tk₄ k₄ z₄ => ?_⟩)))))) (by kernel_rfl))))
      refine wpAny_truthy_bool ?_
      have F₄ := F₃.kept k₄
      have X₄ := X₃.keeps k₄
      have kk := Kp.trans (Kp.trans (Kp.trans F.keep k₂) k₃) k₄
      have zz := Nat.le_trans (Nat.le_trans (Nat.le_trans sz z₂) z₃) z₄
      cases q3 : decide (code0 c > 127) with
      | true =>
        rw [if_pos rfl]
        rw [q3, if_pos rfl] at fin
        refine wpAny_BinOp (wpAny_Constant_int (wpAny_Call_NameR (nmB (v := .builtin "ord") X₄ (cwB (spliced_cons (nmL (v := .str c u) F₄ (spliced_nil ?_)))))))
        exact ord_of_one h1 (P.add_int (fin h₄ _ _ kk zz))
      | false =>
        rw [if_neg Bool.false_ne_true]
        rw [q3, if_neg Bool.false_ne_true] at fin
        refine wpAny_Call_NameR (nmB (v := .builtin "ord") X₄ (cwB (spliced_cons (nmL (v := .str c u) F₄ (spliced_nil ?_)))))
        exact ord_of_one h1 (fin h₄ _ _ kk zz)
end
end
end Mine
namespace Mine
section
open PySem PySem.W PySem.W.X PyProof.Rows PySem.Spec PySem.Calls
set_option maxRecDepth 100000
set_option maxHeartbeats 0
set_option linter.unusedVariables false
set_option linter.unusedSimpArgs false
noncomputable abbrev nn (x : String) : Str := Str.ofString x
theorem upd_ne {m : Str → Option Value} {x y : Str} {v : Option Value} {r : Option Value} (h : m y = r) (hne : y ≠ x := by decide +kernel) : (fun z => if z = x then v else m z) y = r := by
  dsimp only; rw [if_neg hne]; exact h
theorem upd_eq {m : Str → Option Value} {x : Str} {v : Option Value} : (fun z => if z = x then v else m z) x = v := if_pos rfl
theorem Fr.size {h₀ h : Heap} {L : Addr} {m : Str → Option Value} (F : Fr h₀ L h m) : h₀.objs.size ≤ h.objs.size := Nat.le_of_lt (Nat.lt_of_le_of_lt F.above F.ns.lt)
section
variable {M : Model} {A : Around} {E : Value → Shared → Prop} {s : Shared} {i a cda L : Nat} {h₀ : Heap} {m : Str → Option Value}
theorem stL {x : Str} {v : Value} {Q : Unit → Shared → Prop} (F : Fr h₀ L s.heap m) (h : ∀ h', Fr h₀ L h' (fun y => if y = x then some v else m y) → Q () { s with heap := h', toks := s.toks + 1 })
    (hl : (tEnv i a cda L).kindOf x = some .local := by kernel_rfl) (hk : (fdScope (gSt i)).kind = .function := by kernel_rfl) : wpAny M A (storeName (tEnv i a cda L) x v) Q E s :=
  wpAny_storeName_local hl F.ns (fun h' hn hs => h h' (F.set hn hs)) (by
    show ((fdScope (gSt i)).kind == .class || ((fdScope (gSt i)).kind == .module && _)) = false
    rw [hk]; rfl)
/-- a local name, by what is known of the locals -/
theorem nmV {x : Str} {pos : Pos} {v : Value} {Q : Value → Shared → Prop} (F : Fr h₀ L s.heap m) (hv : m x = some v) (h : Q v s) (hk : (fdScope (gSt i)).kind = .function := by kernel_rfl) (hl : (tEnv i a cda L).kindOf x = some .local := by kernel_rfl) (hd : (x == ("__debug__" : Str)) = false := by kernel_rfl) : wpAny M A (eval (.Name x pos) (tEnv i a cda L)) Q E s :=
  wpAny_Name (wpAny_loadName_local hk hl F.ns hv h) hd
end
section
variable {w : World} {A : Around} {E : Value → Shared → Prop} {s : Shared}
theorem while_ {prog : Program} {test : Expr} {body : List Stmt} {pos : Pos} {env : Env} {Q : Flow → Shared → Prop} (I : Nat → Shared → Prop) (n : Nat) (h : I n s)
    (turn : ∀ n s, I n s → wpAny (model prog w) A (isTrue test env (eval test env)) (fun b s₂ =>
        if b = true then wpAny (model prog w) A (execs body env) (fun f s₃ => match f with
            | .next | .cont => ∃ m, m < n ∧ I m s₃
            | .brk => Q .next s₃
            | .ret v => Q (.ret v) s₃) (fun _ _ => False) s₂
        else Q .next s₂) (fun _ _ => False) s) : wpAny (model prog w) A (exec (.While test body [] pos) env) Q (fun _ _ => False) s := by
  refine wpAny_While (codeAny_whileLoop I ?_ n h)
  intro n s hI
  refine wpAny_mono (turn n s hI) (fun b s₂ h₂ => ?_) (fun _ _ q => q.elim)
  cases b with
  | false =>
    simp only [Bool.false_eq_true, if_false] at h₂ ⊢
    exact wpAny_execs_nil h₂
  | true =>
    simp only [if_true] at h₂ ⊢
    refine wpAny_mono h₂ (fun f s₃ h₃ => ?_) (fun _ _ q => q.elim)
    cases f <;> exact h₃
/-- the sign at a place -/
theorem itemS {prog : Program} {value slice : Expr} {x : Str} {t u : Tok} {k : Nat} {Q : Value → Shared → Prop} (hk : k < x.length) (hx : x.length ≤ 100) (h : Q (.str ⟨#[x.cps.getD k 0]⟩ s.toks) { s with toks := s.toks + 1 })
    (hs : subscripted slice false (.str x t) (.int (k : Int) u) = operate [.str x t, .int (k : Int) u] (getItem (.str x t) (.int (k : Int) u)) := by with_unfolding_all rfl)
    (ht : ∀ r, letTemporaryGo value (.str x t) r = pure () := by intro _; with_unfolding_all rfl) :
    wpAny (model prog w) A (subscriptTail value slice (.str x t) (.int (k : Int) u)) Q E s := by
  have e : Txt.item x (k : Int) = ⟨#[x.cps.getD k 0]⟩ := by
    unfold Txt.item Txt.charAt
    have : seqIndex? (k : Int) x.length = some k := by
      unfold seqIndex?
      have h1 : ¬ (k : Int) < 0 := by lia
      have h2 : (decide ((0 : Int) ≤ k) && decide ((k : Int) < x.length)) = true := by simp; lia
      simp only [h1, if_false]
      rw [if_pos h2]; rfl
    rw [this]
    simp [Array.getD, Array.getElem?_eq_getElem, show k < x.cps.size from hk]
  refine item_str (by unfold fitsSsize; simp; lia) (by lia) (by lia) (fun _ => ?_) hs ht
  rw [e]; exact h
theorem lenS {prog : Program} {x : Str} {t : Tok} {Q : Value → Shared → Prop} (hx : x.length ≤ 100) (h : Q (.int (x.length : Nat) (s.toks + 1)) { s with toks := s.toks + 1 + 1 }) : wpAny (model prog w) A (call (.builtin "len") [.str x t]) Q E s :=
  len_str (by lia) h
end
noncomputable def isd (c : Nat) : Bool := decide (48 ≤ c) && decide (c ≤ 57)
noncomputable def runLen : List Nat → Nat
  | [] => 0
  | c :: r => if isd c then runLen r + 1 else 0
/-- where the run of figures from i ends -/
noncomputable def endV (t : Str) (i : Nat) : Nat := i + runLen (t.cps.toList.drop i)
theorem dig_one (c : Nat) : dig ⟨#[c]⟩ = isd c := rfl
theorem endV_stop {t : Str} {i : Nat} (h : t.length ≤ i) : endV t i = i := by
  unfold endV; rw [List.drop_eq_nil_of_le (by simpa [Str.length] using h)]; rfl
theorem drop_at {t : Str} {i : Nat} (h : i < t.length) : t.cps.toList.drop i = t.cps.getD i 0 :: t.cps.toList.drop (i + 1) := by
  have h' : i < t.cps.toList.length := by simpa [Str.length] using h
  rw [List.drop_eq_getElem_cons h']
  congr 1
  have h2 : i < t.cps.size := h
  simp [Array.getD, h2]
theorem endV_no {t : Str} {i : Nat} (h : i < t.length) (q : isd (t.cps.getD i 0) = false) : endV t i = i := by
  unfold endV; rw [drop_at h, runLen, q]; rfl
theorem endV_yes {t : Str} {i : Nat} (h : i < t.length) (q : isd (t.cps.getD i 0) = true) : endV t i = endV t (i + 1) := by
  unfold endV; rw [drop_at h, runLen, q]; simp; lia
section
variable {w : World} {A : Around} {E : Value → Shared → Prop} {Q : Value → Shared → Prop} {s : Shared}
theorem absQ {α : Type} {M : Model} {A : Around} {c : Sem α} {Q : α → Shared → Prop} {E : Value → Shared → Prop} {s : Shared} (x : ∀ Q' : α → Shared → Prop, (∀ a s', Q a s' → Q' a s') → wpAny M A c Q' E s) : wpAny M A c Q E s := x Q fun _ _ h => h
theorem end_ {t : Str} {k : Nat} {u v : Tok} (r : Rm A 3) (X : Bs w s.heap) (hl : t.length ≤ 6) (hk : k ≤ t.length) (hq : Bk s Q fun tk => .int (endV t k : Nat) tk) :
    wpAny (model Challenge.rw_mg0016_01.prog w) A (call (.ref 91) [.str t u, .int (k : Nat) v]) Q E s := by
  refine wpAny_call ?_
  refine call_top (i := 13) (cda := 90) (pm := lm) (binds := [(nn "text", .str t u), (nn "at", .int (k : Nat) v)]) 3 r X (by kernel_rfl) rfl rfl (tq := 267) (by kernel_rfl) (by kernel_rfl) (by decide +kernel) (by decide +kernel) (by kernel_rfl) fun h₁ F X₁ sz => ?_
  refine wpAny_execs_cons ?_
  refine while_ (fun n s' => ∃ h' tk m j, s' = { s with heap := h', toks := tk } ∧ Fr s.heap s.heap.objs.size h' m ∧ m (nn "text") = some (.str t u) ∧ (∃ v', m (nn "at") = some (.int (j : Nat) v')) ∧ n = t.length - j ∧ j ≤ t.length ∧ endV t j = endV t k) (t.length - k)
    ⟨h₁, _, _, k, rfl, F, by kernel_rfl, ⟨v, by kernel_rfl⟩, rfl, hk, rfl⟩ ?_
  rintro n _ ⟨h', tk, m, j, rfl, F', mt, ⟨v', ma⟩, rfl, hj, he⟩
  have X' := X.keeps F'.keep
  have out : ∀ h'' tk'', Kp s.heap h'' → s.heap.objs.size ≤ h''.objs.size → Fr s.heap s.heap.objs.size h'' m → endV t j = j → wpAny (model Challenge.rw_mg0016_01.prog w) (A.deeper (tEnv 13 91 90 s.heap.objs.size))
      (execs [.Return (some (.Name (nn "at") ⟨64, 11, 64, 13⟩)) ⟨64, 4, 64, 13⟩] (tEnv 13 91 90 s.heap.objs.size))
      (fun f s' => (match (Except.ok (Flow.ret (match f with | .ret v => v | _ => .none)) : Result) with | .ok (.ret v) => Q v s' | .ok _ => False | .error e => E e s')) (fun _ _ => False) { s with heap := h'', toks := tk'' } := by
    intro h'' tk'' k'' z'' F'' ej
    refine wpAny_execs_cons (rest := []) (wpAny_Return_some (nmV (v := .int (j : Nat) v') F'' ma ?_))
    have e2 : endV t k = j := he.symm.trans ej
    have := hq h'' tk'' v' k'' z''
    rw [e2] at this
    exact this
  refine absQ fun Q' kQ => ?_
  refine isTrue_and (wpAny_isTrue_Compare1 (nmV (v := .int (j : Nat) v') F' ma (wpAny_Call_NameR (nmB (v := .builtin "len") X' (cwB (spliced_cons (nmV (v := .str t u) F' mt (spliced_nil (lenS (by lia) ?_)))))))))
  refine P.lt_int (wpAny_truthy_bool ?_)
  by_cases hlt : j < t.length
  · rw [decide_eq_true (by lia : ((j : Nat) : Int) < ((t.length : Nat) : Int)), if_pos rfl]
    refine isTrue_and (isTrue_plain (wpAny_Call_NameR (nmG (v := .ref 42) X' (cwF (w := w) (spliced_cons (Subscript_ (nmV (v := .str t u) F' mt (nmV (v := .int (j : Nat) v') F' ma (itemS hlt (by lia) (spliced_nil ⟨X', isdig r.deeper X' rfl fun h₂ t₂ tk₂ k₂ z₂ => ?_⟩))))))))) (by kernel_rfl))
    refine wpAny_truthy_bool ?_
    have F₂ := F'.kept k₂
    show if dig ⟨#[t.cps.getD j 0]⟩ = true then _ else _
    rw [dig_one]
    cases q : isd (t.cps.getD j 0) with
    | true =>
      rw [if_pos rfl]
      refine isTrue_and_nil (kQ _ _ ?_)
      rw [if_pos rfl]
      refine absQ fun Q' kQ => ?_
      refine wpAny_execs_cons (rest := []) (wpAny_Assign_Name (wpAny_BinOp (nmV (v := .int (j : Nat) v') F₂ ma (wpAny_Constant_int (P.add_int ?_)))))
      refine stL F₂ fun h₃ F₃ => wpAny_execs_nil (kQ _ _ ⟨t.length - (j + 1), by lia, h₃, _, _, j + 1, rfl, F₃, upd_ne mt, ⟨_, upd_eq⟩, rfl, by lia, ?_⟩)
      rw [← endV_yes hlt q]; exact he
    | false =>
      rw [if_neg Bool.false_ne_true]
      refine kQ _ _ ?_
      rw [if_neg Bool.false_ne_true]
      exact out h₂ _ F₂.keep (Fr.size F₂) F₂ (endV_no hlt q)
  · rw [decide_eq_false (by lia : ¬ ((j : Nat) : Int) < ((t.length : Nat) : Int)), if_neg Bool.false_ne_true]
    refine kQ _ _ ?_
    rw [if_neg Bool.false_ne_true]
    exact out h' _ F'.keep (Fr.size F') F' (endV_stop (by lia))
end
end
end Mine
namespace Mine
section
open PySem PySem.W PySem.W.X PyProof.Rows PySem.Spec PySem.Calls
set_option maxRecDepth 100000
set_option maxHeartbeats 0
set_option linter.unusedVariables false
set_option linter.unusedSimpArgs false
theorem u_ne {y x : Str} {v e r : Option Value} (h : e = r) (hne : y ≠ x := by decide +kernel) : (if y = x then v else e) = r := (if_neg hne).trans h
theorem u_eq {x : Str} {v e : Option Value} : (if x = x then v else e) = v := if_pos rfl
/-- a local name of a frame, told -/
structure Nm (i a cda : Nat) (x : Str) : Prop where
  l : ∀ L, (tEnv i a cda L).kindOf x = some .local
  d : (x == ("__debug__" : Str)) = false
/-- the run of figures from k, without the noughts ahead -/
@[irreducible] noncomputable def cutV (t : Str) (k : Nat) : Str := Txt.lstripChars (Txt.slice t (some (k : Int)) (some ((endV t k : Nat) : Int))) (nn "0")
theorem cutV_len (t : Str) (k : Nat) : (cutV t k).length ≤ t.length := by unfold cutV; exact Nat.le_trans (len_lstripChars _ _) (PyProof.Txt.length_slice_le t _ _)
section
variable {w : World} {A : Around} {E : Value → Shared → Prop} {Q : Value → Shared → Prop} {s : Shared} {L : Nat} {h₀ : Heap} {m : Str → Option Value}
noncomputable abbrev oE (L : Nat) : Env := tEnv 14 98 97 L
theorem nmW {x : Str} {pos : Pos} {v : Value} (N : Nm 14 98 97 x) (F : Fr h₀ L s.heap m) (hv : m x = some v) (h : Q v s) : wpAny (model Challenge.rw_mg0016_01.prog w) A (eval (.Name x pos) (oE L)) Q E s :=
  wpAny_Name (wpAny_loadName_local (by kernel_rfl) (N.l L) F.ns hv h) N.d
theorem rk_ {x y : Str} {p0 p1 p2 p3 p4 : Pos} {t : Str} {k : Nat} {u v : Tok} (r : Rm A 4) (X : Bs w h₀) (F : Fr h₀ L s.heap m) (Nx : Nm 14 98 97 x) (Ny : Nm 14 98 97 y) (hx : m x = some (.str t u)) (hy : m y = some (.int (k : Nat) v)) (hk : k < t.length) (hl : t.length ≤ 6)
    (h : ∀ h' t' tk, Fr h₀ L h' m → Q (.int (rankV ⟨#[t.cps.getD k 0]⟩) tk) { s with heap := h', toks := t' }) :
    wpAny (model Challenge.rw_mg0016_01.prog w) A (eval (.Call (.Name (nn "_law_rank") p0) [.Subscript (.Name x p1) (.Name y p2) p3] [] p4) (oE L)) Q E s := by
  have X' := X.keeps F.keep
  refine wpAny_Call_NameR (nmG (v := .ref 84) X' (cwF (w := w) (spliced_cons (Subscript_ (nmW Nx F hx (nmW Ny F hy (itemS hk (by lia) (spliced_nil ⟨X', ?_⟩))))))))
  exact rank_ r X' rfl fun h' t' tk k' z' => h h' t' tk (F.kept k')
theorem cut_ {x y : Str} {p1 p2 p3 p4 p5 p6 p7 p8 p9 p10 p11 : Pos} {t : Str} {k : Nat} {u v : Tok} (r : Rm A 4) (X : Bs w h₀) (F : Fr h₀ L s.heap m) (Nx : Nm 14 98 97 x) (Ny : Nm 14 98 97 y) (hx : m x = some (.str t u)) (hy : m y = some (.int (k : Nat) v)) (hk : k ≤ t.length) (hl : t.length ≤ 6)
    (hline : (p9.endLine == p11.line) = true)
    (h : ∀ h' t' tk, Fr h₀ L h' m → Q (.str (cutV t k) tk) { s with heap := h', toks := t' }) :
    wpAny (model Challenge.rw_mg0016_01.prog w) A (eval (.Call (.Attribute (.Subscript (.Name x p1) (.Slice (some (.Name y p2)) (some (.Call (.Name (nn "_law_end") p3) [.Name x p4, .Name y p5] [] p6)) none p7) p8) (nn "lstrip") p9) [.Constant (.str (nn "0")) 0 p10] [] p11) (oE L)) Q E s := by
  have X' := X.keeps F.keep
  refine wpAny_Call_method_lateS (by with_unfolding_all rfl) (by kernel_rfl) hline ?_
  refine Subscript_ (nmW Nx F hx ?_)
  rw [arm_eval_Slice]
  refine wpAny_bind (m := valueOrNone (evalOpt (some (.Name y p2)) (oE L))) (nmW Ny F hy ?_)
  refine wpAny_bind (wpAny_holding (m := valueOrNone (evalOpt (some (.Call (.Name (nn "_law_end") p3) [.Name x p4, .Name y p5] [] p6)) (oE L))) ?_)
  show wpAny _ _ (eval (.Call (.Name (nn "_law_end") p3) [.Name x p4, .Name y p5] [] p6) (oE L)) _ _ _
  refine wpAny_Call_NameR (nmG (v := .ref 91) X' (cwF (w := w) (spliced_cons (nmW Nx F hx (spliced_cons (nmW Ny F hy (spliced_nil ⟨X', ?_⟩)))))))
  refine end_ (r.le (by lia)) X' hl hk fun h₁ t₁ tk₁ k₁ z₁ => ?_
  have F₁ := F.kept k₁
  refine wpAny_bind (wpAny_holding (m := valueOrNone (evalOpt none (oE L))) (wpAny_pure ?_))
  refine wpAny_bind (wpAny_alloc (wpAny_pure ?_))
  refine slice_str_ss (ui := v) (uj := tk₁) (s := { s with heap := h₁, toks := t₁ }) F₁ (fun h₂ t₂ k₂ F₂ => ?_) (hsz := by rw [sizeLine_eq]; lia)
  have hs : (Txt.slice t (some (k : Int)) (some ((endV t k : Nat) : Int))).length ≤ sizeLine := Nat.le_trans (PyProof.Txt.length_slice_le t _ _) (by rw [sizeLine_eq]; lia)
  refine SB.lstripChars (wpAny_Constant_str (k := 0) (pos := p10) ⟨_, _, rfl, fun t₃ k₃ => ?_⟩) hs
  have := h h₂ k₃ t₃ F₂
  unfold cutV at this
  exact this
end
theorem runLen_le : ∀ l : List Nat, runLen l ≤ l.length
  | [] => Nat.le_refl _
  | c :: r => by
    rw [runLen]; split
    · have := runLen_le r; rw [List.length_cons]; lia
    · exact Nat.zero_le _
theorem endV_le {t : Str} {i : Nat} (h : i ≤ t.length) : endV t i ≤ t.length := by
  have := runLen_le (t.cps.toList.drop i)
  rw [List.length_drop, Array.length_toList] at this
  unfold endV
  have e : t.cps.size = t.length := rfl
  lia
theorem endV_gt {t : Str} {i : Nat} (h : i < t.length) (q : isd (t.cps.getD i 0) = true) : i + 1 ≤ endV t i := by
  rw [endV_yes h q]; unfold endV; lia
/-- what _law_order hands back from the places i, j on, in at most n turns -/
noncomputable def ordF (a b : Str) : Nat → Nat → Nat → Int
  | 0, i, j => (a.length : Int) - i - b.length + j
  | n + 1, i, j =>
    if i < a.length ∧ j < b.length then
      if rankV ⟨#[a.cps.getD i 0]⟩ - rankV ⟨#[b.cps.getD j 0]⟩ ≠ 0 then rankV ⟨#[a.cps.getD i 0]⟩ - rankV ⟨#[b.cps.getD j 0]⟩
      else if isd (a.cps.getD i 0) = true then
        if ((cutV a i).length : Int) ≠ ((cutV b j).length : Int) then ((cutV a i).length : Int) - ((cutV b j).length : Int)
        else if (cutV a i).cps.toList ≠ (cutV b j).cps.toList then (if (cutV a i).cps.toList < (cutV b j).cps.toList then -1 else 1)
        else ordF a b n (endV a i) (endV b j)
      else ordF a b n (i + 1) (j + 1)
    else (a.length : Int) - i - b.length + j
noncomputable def ordV (a b : Str) : Int := ordF a b (a.length + 1) 0 0
theorem ordF_out {a b : Str} {n i j : Nat} (h : ¬ (i < a.length ∧ j < b.length)) : ordF a b n i j = (a.length : Int) - i - b.length + j := by
  cases n with
  | zero => rfl
  | succ n => rw [ordF, if_neg h]
section
variable {w : World} {A : Around} {E : Value → Shared → Prop} {Q : Value → Shared → Prop} {s : Shared}
theorem nmO {x : Str} (h : ∀ L, (oE L).kindOf x = some .local := by intro L; kernel_rfl) (d : (x == ("__debug__" : Str)) = false := by kernel_rfl) : Nm 14 98 97 x := ⟨h, d⟩
theorem order_ : OrdC Challenge.rw_mg0016_01.prog w ordV := by
  intro A s Q E a b ua ub r X la lb hq
  refine wpAny_call ?_
  refine call_top (i := 14) (cda := 97) (pm := lm) (binds := [(nn "a", .str a ua), (nn "b", .str b ub)]) 8 r X (by kernel_rfl) rfl rfl (tq := 275) (by kernel_rfl) (by kernel_rfl) (by decide +kernel) (by decide +kernel) (by kernel_rfl) fun h₁ F X₁ sz => ?_
  refine wpAny_execs_cons (wpAny_Assign_Name (wpAny_Constant_int (stL F fun h₂ F₂ => ?_)))
  refine wpAny_execs_cons (wpAny_Assign_Name (wpAny_Constant_int (stL F₂ fun h₃ F₃ => ?_)))
  refine wpAny_execs_cons ?_
  have r4 : Rm (A.deeper (oE s.heap.objs.size)) 4 := (r.le (by lia : 5 ≤ 8)).deeper
  refine while_ (fun n s' => ∃ h' tk m i j, s' = { s with heap := h', toks := tk } ∧ Fr s.heap s.heap.objs.size h' m ∧ m (nn "a") = some (.str a ua) ∧ m (nn "b") = some (.str b ub) ∧ (∃ v, m (nn "i") = some (.int (i : Nat) v)) ∧ (∃ v, m (nn "j") = some (.int (j : Nat) v)) ∧ i ≤ a.length ∧ j ≤ b.length ∧ a.length < n + i ∧ ordF a b n i j = ordV a b) (a.length + 1)
    ⟨h₃, _, _, 0, 0, rfl, F₃, u_ne (u_ne (by kernel_rfl)), u_ne (u_ne (by kernel_rfl)), ⟨_, u_ne u_eq⟩, ⟨_, u_eq⟩, Nat.zero_le _, Nat.zero_le _, by lia, rfl⟩ ?_
  rintro n _ ⟨h', tk, m, i, j, rfl, F', ma, mb, ⟨vi, mi⟩, ⟨vj, mj⟩, hi, hj, hn, ho⟩
  have X' := X.keeps F'.keep
  have out : ∀ tk'', ¬ (i < a.length ∧ j < b.length) → wpAny (model Challenge.rw_mg0016_01.prog w) (A.deeper (oE s.heap.objs.size))
      (execs ((fdBody (gSt 14)).drop 3) (oE s.heap.objs.size))
      (fun f s' => (match (Except.ok (Flow.ret (match f with | .ret v => v | _ => .none)) : Result) with | .ok (.ret v) => Q v s' | .ok _ => False | .error e => E e s')) (fun _ _ => False) { s with heap := h', toks := tk'' } := by
    intro tk'' hno
    refine wpAny_execs_cons (rest := []) (wpAny_Return_some (wpAny_BinOp (wpAny_BinOp (wpAny_BinOp (wpAny_Call_NameR (nmB (v := .builtin "len") X' (cwB (spliced_cons (nmV (v := .str a ua) F' ma (spliced_nil (lenS (by lia) ?_)))))))))))
    refine nmV (v := .int (i : Nat) vi) F' mi (P.sub_int (wpAny_Call_NameR (nmB (v := .builtin "len") X' (cwB (spliced_cons (nmV (v := .str b ub) F' mb (spliced_nil (lenS (by lia) ?_))))))))
    refine P.sub_int (nmV (v := .int (j : Nat) vj) F' mj (P.add_int ?_))
    have e2 := (ordF_out (n := n) hno).symm.trans ho
    have := hq h' (tk'' + 1 + 1 + 1 + 1 + 1 + 1 + 1) (tk'' + 1 + 1 + 1 + 1 + 1 + 1) F'.keep (Fr.size F')
    rw [← e2] at this
    exact this
  refine absQ fun Q' kQ => ?_
  refine isTrue_and (wpAny_isTrue_Compare1 (nmV (v := .int (i : Nat) vi) F' mi (wpAny_Call_NameR (nmB (v := .builtin "len") X' (cwB (spliced_cons (nmV (v := .str a ua) F' ma (spliced_nil (lenS (by lia) ?_)))))))))
  refine P.lt_int (wpAny_truthy_bool ?_)
  by_cases hia : i < a.length
  case neg =>
    rw [decide_eq_false (by lia : ¬ ((i : Nat) : Int) < ((a.length : Nat) : Int)), if_neg Bool.false_ne_true]
    refine kQ _ _ ?_
    rw [if_neg Bool.false_ne_true]
    exact out _ (fun q => hia q.1)
  rw [decide_eq_true (by lia : ((i : Nat) : Int) < ((a.length : Nat) : Int)), if_pos rfl]
  refine isTrue_and (wpAny_isTrue_Compare1 (nmV (v := .int (j : Nat) vj) F' mj (wpAny_Call_NameR (nmB (v := .builtin "len") X' (cwB (spliced_cons (nmV (v := .str b ub) F' mb (spliced_nil (lenS (by lia) ?_)))))))))
  refine P.lt_int (wpAny_truthy_bool ?_)
  by_cases hjb : j < b.length
  case neg =>
    rw [decide_eq_false (by lia : ¬ ((j : Nat) : Int) < ((b.length : Nat) : Int)), if_neg Bool.false_ne_true]
    refine kQ _ _ ?_
    rw [if_neg Bool.false_ne_true]
    exact out _ (fun q => hjb q.2)
  rw [decide_eq_true (by lia : ((j : Nat) : Int) < ((b.length : Nat) : Int)), if_pos rfl]
  refine isTrue_and_nil (kQ _ _ ?_)
  rw [if_pos rfl]
  refine absQ fun Q' kQ => ?_
  obtain ⟨n, rfl⟩ : ∃ n', n = n' + 1 := ⟨n - 1, by lia⟩
  rw [ordF, if_pos ⟨hia, hjb⟩] at ho
  refine wpAny_execs_cons (wpAny_Assign_Name (wpAny_BinOp (rk_ r4 X F' nmO nmO ma mi hia la fun h₄ t₄ tk₄ F₄ => rk_ r4 X F₄ nmO nmO mb mj hjb lb fun h₅ t₅ tk₅ F₅ => P.sub_int (stL F₅ fun h₆ F₆ => ?_))))
  have told := rankV ⟨#[a.cps.getD i 0]⟩ - rankV ⟨#[b.cps.getD j 0]⟩
  refine wpAny_execs_cons (wpAny_If (wpAny_isTrue_Compare1 (nmV (v := .int (rankV ⟨#[a.cps.getD i 0]⟩ - rankV ⟨#[b.cps.getD j 0]⟩) t₅) F₆ u_eq (wpAny_Constant_int (P.ne_int (wpAny_truthy_bool ?_))))))
  by_cases ht : rankV ⟨#[a.cps.getD i 0]⟩ - rankV ⟨#[b.cps.getD j 0]⟩ = 0
  case neg =>
    rw [if_pos ht] at ho
    rw [(bne_iff_ne).mpr ht, if_pos rfl]
    refine wpAny_execs_cons (rest := []) (wpAny_Return_some (nmV (v := .int (rankV ⟨#[a.cps.getD i 0]⟩ - rankV ⟨#[b.cps.getD j 0]⟩) t₅) F₆ u_eq ?_))
    have := hq h₆ (t₅ + 1 + 1 + 1) t₅ F₆.keep (Fr.size F₆)
    rw [← ho] at this
    exact kQ _ _ this
  rw [if_neg (fun q => q ht)] at ho
  rw [show (rankV ⟨#[a.cps.getD i 0]⟩ - rankV ⟨#[b.cps.getD j 0]⟩ != 0) = false from by rw [ht]; rfl, if_neg Bool.false_ne_true]
  refine wpAny_execs_nil ?_
  have X6 := X.keeps F₆.keep
  refine wpAny_execs_cons (rest := []) (wpAny_If (isTrue_plain (wpAny_Call_NameR (nmG (v := .ref 42) X6 (cwF (w := w) (spliced_cons (Subscript_ (nmV (v := .str a ua) F₆ (u_ne ma) (nmV (v := .int (i : Nat) vi) F₆ (u_ne mi) (itemS hia (by lia) (spliced_nil ⟨X6, isdig (r4.le (by lia)) X6 rfl fun h₇ t₇ tk₇ k₇ z₇ => ?_⟩))))))))) (by kernel_rfl)))
  refine wpAny_truthy_bool ?_
  have F₇ := F₆.kept k₇
  show if dig ⟨#[a.cps.getD i 0]⟩ = true then _ else _
  rw [dig_one]
  cases q : isd (a.cps.getD i 0) with
  | false =>
    rw [if_neg Bool.false_ne_true]
    rw [q, if_neg Bool.false_ne_true] at ho
    refine wpAny_execs_cons (wpAny_Assign_Name (wpAny_BinOp (nmV (v := .int (i : Nat) vi) F₇ (u_ne mi) (wpAny_Constant_int (P.add_int (stL F₇ fun h₈ F₈ => ?_))))))
    refine wpAny_execs_cons (rest := []) (wpAny_Assign_Name (wpAny_BinOp (nmV (v := .int (j : Nat) vj) F₈ (u_ne (u_ne mj)) (wpAny_Constant_int (P.add_int (stL F₈ fun h₉ F₉ => ?_))))))
    refine wpAny_execs_nil (wpAny_execs_nil ?_)
    refine kQ _ _ ?_
    exact ⟨n, by lia, h₉, _, _, i + 1, j + 1, rfl, F₉, u_ne (u_ne (u_ne ma)), u_ne (u_ne (u_ne mb)), ⟨_, u_ne u_eq⟩, ⟨_, u_eq⟩, by lia, by lia, by lia, ho⟩
  | true =>
    rw [if_pos rfl]
    rw [q, if_pos rfl] at ho
    refine wpAny_execs_cons (wpAny_Assign_Name (cut_ r4 X F₇ nmO nmO (u_ne ma) (u_ne mi) hi la (by kernel_rfl) fun h₈ t₈ tk₈ F₈ => stL F₈ fun h₉ F₉ => ?_))
    refine wpAny_execs_cons (wpAny_Assign_Name (cut_ r4 X F₉ nmO nmO (u_ne (u_ne mb)) (u_ne (u_ne mj)) hj lb (by kernel_rfl) fun hA tA tkA FA => stL FA fun hB FB => ?_))
    have XB := X.keeps FB.keep
    dsimp only
    have l1 : (cutV a i).length ≤ 100 := Nat.le_trans (cutV_len a i) (by lia)
    have l2 : (cutV b j).length ≤ 100 := Nat.le_trans (cutV_len b j) (by lia)
    refine wpAny_execs_cons (wpAny_If (wpAny_isTrue_Compare1 (wpAny_Call_NameR (nmB (v := .builtin "len") XB (cwB (spliced_cons (nmV (v := .str (cutV a i) tk₈) FB (u_ne u_eq) (spliced_nil (lenS l1 ?_)))))))))
    refine wpAny_Call_NameR (nmB (v := .builtin "len") XB (cwB (spliced_cons (nmV (v := .str (cutV b j) tkA) FB u_eq (spliced_nil (lenS l2 ?_))))))
    refine P.ne_int (wpAny_truthy_bool ?_)
    by_cases hln : ((cutV a i).length : Int) = ((cutV b j).length : Int)
    case neg =>
      rw [if_pos hln] at ho
      rw [(bne_iff_ne).mpr hln, if_pos rfl]
      refine wpAny_execs_cons (rest := []) (wpAny_Return_some (wpAny_BinOp (wpAny_Call_NameR (nmB (v := .builtin "len") XB (cwB (spliced_cons (nmV (v := .str (cutV a i) tk₈) FB (u_ne u_eq) (spliced_nil (lenS l1 ?_)))))))))
      refine wpAny_Call_NameR (nmB (v := .builtin "len") XB (cwB (spliced_cons (nmV (v := .str (cutV b j) tkA) FB u_eq (spliced_nil (lenS l2 ?_))))))
      refine P.sub_int ?_
      have := fun tt tk => hq hB tt tk FB.keep (Fr.size FB)
      rw [← ho] at this
      dsimp only
      exact kQ _ _ (this _ _)
    rw [if_neg (fun q => q hln)] at ho
    rw [show (((cutV a i).length : Int) != ((cutV b j).length : Int)) = false from by rw [hln]; simp, if_neg Bool.false_ne_true]
    refine wpAny_execs_nil ?_
    refine wpAny_execs_cons (wpAny_If (wpAny_isTrue_Compare1 (nmV (v := .str (cutV a i) tk₈) FB (u_ne u_eq) (nmV (v := .str (cutV b j) tkA) FB u_eq (P.ne_str (wpAny_truthy_bool ?_))))))
    by_cases hne : (cutV a i).cps.toList = (cutV b j).cps.toList
    case neg =>
      rw [if_pos hne] at ho
      rw [(bne_iff_ne).mpr hne, if_pos rfl]
      refine wpAny_execs_cons (rest := []) (wpAny_Return_some (IfExp_ (wpAny_isTrue_Compare1 (nmV (v := .str (cutV a i) tk₈) FB (u_ne u_eq) (nmV (v := .str (cutV b j) tkA) FB u_eq (P.lt_str (wpAny_truthy_bool ?_)))))))
      have fin := fun tt tk => hq hB tt tk FB.keep (Fr.size FB)
      rw [← ho] at fin
      by_cases hlt : (cutV a i).cps.toList < (cutV b j).cps.toList
      · rw [if_pos hlt] at fin
        rw [decide_eq_true hlt, if_pos rfl]
        refine UnaryOp_ (wpAny_Constant_int (P.neg_int ?_))
        dsimp only
        exact kQ _ _ (fin _ _)
      · rw [if_neg hlt] at fin
        rw [decide_eq_false hlt, if_neg Bool.false_ne_true]
        refine wpAny_Constant_int ?_
        dsimp only
        exact kQ _ _ (fin _ _)
    rw [if_neg (fun q => q hne)] at ho
    rw [show ((cutV a i).cps.toList != (cutV b j).cps.toList) = false from by rw [hne]; simp, if_neg Bool.false_ne_true]
    refine wpAny_execs_nil ?_
    refine wpAny_execs_cons (wpAny_Assign_Name (wpAny_Call_NameR (nmG (v := .ref 91) XB (cwF (w := w) (spliced_cons (nmV (v := .str a ua) FB (u_ne (u_ne (u_ne ma))) (spliced_cons (nmV (v := .int (i : Nat) vi) FB (u_ne (u_ne (u_ne mi))) (spliced_nil ⟨XB, end_ (r4.le (by lia)) XB la hi fun hC tC tkC kC zC => ?_⟩)))))))))
    have FC := FB.kept kC
    dsimp only
    refine stL FC fun hD FD => ?_
    have XD := X.keeps FD.keep
    refine wpAny_execs_cons (rest := []) (wpAny_Assign_Name (wpAny_Call_NameR (nmG (v := .ref 91) XD (cwF (w := w) (spliced_cons (nmV (v := .str b ub) FD (u_ne (u_ne (u_ne (u_ne mb)))) (spliced_cons (nmV (v := .int (j : Nat) vj) FD (u_ne (u_ne (u_ne (u_ne mj)))) (spliced_nil ⟨XD, end_ (r4.le (by lia)) XD lb hj fun hF tF tkF kF zF => ?_⟩)))))))))
    have FF := FD.kept kF
    dsimp only
    refine stL FF fun hG FG => wpAny_execs_nil (wpAny_execs_nil ?_)
    have g1 := endV_gt hia q
    refine kQ _ _ ?_
    exact ⟨n, by lia, hG, _, _, endV a i, endV b j, rfl, FG, u_ne (u_ne (u_ne (u_ne (u_ne ma)))), u_ne (u_ne (u_ne (u_ne (u_ne mb)))), ⟨_, u_ne u_eq⟩, ⟨_, u_eq⟩, endV_le hi, endV_le hj, by lia, ho⟩
end
end
end Mine
namespace Mine
section
open PySem PySem.W PySem.W.X PyProof.Rows PySem.Spec PySem.Calls
set_option maxRecDepth 100000
set_option maxHeartbeats 0
set_option linter.unusedVariables false
set_option linter.unusedSimpArgs false
noncomputable def signs : Str := nn "aAbZ0129 _-éz"
noncomputable def sg (n : Nat) : Nat := signs.cps.getD (n % 13) 0
noncomputable def nameF : Nat → Str → Nat → Str
  | 0, t, _ => t
  | k + 1, t, n => if n > 0 then nameF k (t ++ ⟨#[sg n]⟩) (n / 13) else t
noncomputable def nameV (n : Nat) : Str := nameF 6 (nn "") n
section
variable {w : World} {A : Around} {E : Value → Shared → Prop} {Q : Value → Shared → Prop} {s : Shared}
theorem mod_nat {prog : Program} {n k : Nat} {t u : Tok} (hk : 0 < k) (h : Q (.int ((n % k : Nat) : Int) s.toks) { s with toks := s.toks + 1 }) : wpAny (model prog w) A (binaryOp .Mod (.int (n : Nat) t) (.int (k : Nat) u)) Q E s := by
  refine mod_int' (by lia) ?_
  have e : Int.fmod ((n : Nat) : Int) (k : Nat) = ((n % k : Nat) : Int) := by rw [Int.fmod_eq_emod_of_nonneg _ (by lia)]; lia
  rw [e]; exact h
theorem div_nat {prog : Program} {n k : Nat} {t u : Tok} (hk : 0 < k ∧ k < 1000) (hn : n < 100000000) (h : Q (.int ((n / k : Nat) : Int) s.toks) { s with toks := s.toks + 1 }) : wpAny (model prog w) A (binaryOp .FloorDiv (.int (n : Nat) t) (.int (k : Nat) u)) Q E s := by
  refine floordiv_int (by lia) ?_ (Or.inl (PyProof.noPylong_small (by lia)))
  have e : Int.fdiv ((n : Nat) : Int) (k : Nat) = ((n / k : Nat) : Int) := by rw [Int.fdiv_eq_ediv_of_nonneg _ (by lia)]; lia
  rw [e]; exact h
theorem name_ {n : Nat} {u : Tok} (r : Rm A 1) (X : Bs w s.heap) (hb : n < 100000000) (hq : Bk s Q fun tk => .str (nameV n) tk) :
    wpAny (model Challenge.rw_mg0016_01.prog w) A (call (.ref 77) [.int (n : Nat) u]) Q E s := by
  refine wpAny_call ?_
  refine call_top (i := 11) (cda := 76) (pm := lm) (binds := [(nn "n", .int (n : Nat) u)]) 1 r X (by kernel_rfl) rfl rfl (tq := 252) (by kernel_rfl) (by kernel_rfl) (by decide +kernel) (by decide +kernel) (by kernel_rfl) fun h₁ F X₁ sz => ?_
  refine wpAny_execs_cons (wpAny_Assign_Name (wpAny_Constant_str (stL F fun h₂ F₂ => ?_)))
  refine wpAny_execs_cons ?_
  refine while_ (fun k s' => ∃ h' tk m t n', s' = { s with heap := h', toks := tk } ∧ Fr s.heap s.heap.objs.size h' m ∧ (∃ v, m (nn "text") = some (.str t v)) ∧ (∃ v, m (nn "n") = some (.int (n' : Nat) v)) ∧ k + t.length = 6 ∧ n' < 100000000 ∧ nameF k t n' = nameV n) 6
    ⟨h₂, _, _, nn "", n, rfl, F₂, ⟨_, u_eq⟩, ⟨u, u_ne (by kernel_rfl)⟩, by decide +kernel, hb, rfl⟩ ?_
  rintro k _ ⟨h', tk, m, t, n', rfl, F', ⟨vt, mt⟩, ⟨vn, mn⟩, hk, hb', ho⟩
  have X' := X.keeps F'.keep
  have out : ∀ tk'', (nameF k t n' = t) → wpAny (model Challenge.rw_mg0016_01.prog w) (A.deeper (tEnv 11 77 76 s.heap.objs.size))
      (execs ((fdBody (gSt 11)).drop 2) (tEnv 11 77 76 s.heap.objs.size))
      (fun f s' => (match (Except.ok (Flow.ret (match f with | .ret v => v | _ => .none)) : Result) with | .ok (.ret v) => Q v s' | .ok _ => False | .error e => E e s')) (fun _ _ => False) { s with heap := h', toks := tk'' } := by
    intro tk'' e
    refine wpAny_execs_cons (rest := []) (wpAny_Return_some (nmV (v := .str t vt) F' mt ?_))
    have := hq h' tk'' vt F'.keep (Fr.size F')
    rw [← ho, e] at this
    exact this
  refine absQ fun Q' kQ => ?_
  refine isTrue_and (wpAny_isTrue_Compare1 (nmV (v := .int (n' : Nat) vn) F' mn (wpAny_Constant_int (P.gt_int (wpAny_truthy_bool ?_)))))
  by_cases hn : n' > 0
  case neg =>
    rw [decide_eq_false (by lia : ¬ ((n' : Nat) : Int) > 0), if_neg Bool.false_ne_true]
    refine kQ _ _ ?_
    rw [if_neg Bool.false_ne_true]
    refine out _ ?_
    cases k with
    | zero => rfl
    | succ k => rw [nameF, if_neg hn]
  rw [decide_eq_true (by lia : ((n' : Nat) : Int) > 0), if_pos rfl]
  refine isTrue_and (wpAny_isTrue_Compare1 (wpAny_Call_NameR (nmB (v := .builtin "len") X' (cwB (spliced_cons (nmV (v := .str t vt) F' mt (spliced_nil (lenS (by lia) ?_)))))))) 
  refine wpAny_Constant_int (P.lt_int (wpAny_truthy_bool ?_))
  by_cases hl : t.length < 6
  case neg =>
    rw [decide_eq_false (by lia : ¬ ((t.length : Nat) : Int) < 6), if_neg Bool.false_ne_true]
    refine kQ _ _ ?_
    rw [if_neg Bool.false_ne_true]
    refine out _ ?_
    obtain rfl : k = 0 := by lia
    rfl
  rw [decide_eq_true (by lia : ((t.length : Nat) : Int) < 6), if_pos rfl]
  refine isTrue_and_nil (kQ _ _ ?_)
  rw [if_pos rfl]
  refine absQ fun Q' kQ => ?_
  obtain ⟨k, rfl⟩ : ∃ k', k = k' + 1 := ⟨k - 1, by lia⟩
  rw [nameF, if_pos hn] at ho
  refine wpAny_execs_cons (wpAny_Assign_Name (wpAny_BinOp (nmV (v := .str t vt) F' mt (Subscript_ (wpAny_Constant_str (wpAny_BinOp (nmV (v := .int (n' : Nat) vn) F' mn (wpAny_Constant_int (mod_nat (k := 13) (by decide) ?_)))))))))
  refine itemS (x := signs) (show n' % 13 < signs.length from Nat.lt_of_lt_of_eq (Nat.mod_lt _ (by lia)) (by decide +kernel)) (by decide +kernel) ?_
  refine PyProof.Rows.add_str (fun t₁ k₁ => stL F' fun h₃ F₃ => ?_) (by rw [sizeLine_eq]; show t.length + 1 ≤ _; lia)
  refine wpAny_execs_cons (rest := []) (wpAny_Assign_Name (wpAny_BinOp (nmV (v := .int (n' : Nat) vn) F₃ (u_ne mn) (wpAny_Constant_int (div_nat (k := 13) ⟨by decide, by decide⟩ hb' ?_)))))
  refine stL F₃ fun h₄ F₄ => wpAny_execs_nil ?_
  dsimp only
  refine kQ _ _ ?_
  refine ⟨k, by lia, h₄, _, _, t ++ ⟨#[sg n']⟩, n' / 13, rfl, F₄, ⟨_, u_ne u_eq⟩, ⟨_, u_eq⟩, ?_, by lia, ho⟩
  rw [Str.length_append]
  show k + (t.length + 1) = 6
  lia
end
end
end Mine
namespace Mine
section
open PySem PySem.W PySem.W.X PyProof.Rows PySem.Spec PySem.Calls
set_option maxRecDepth 100000
set_option maxHeartbeats 0
set_option linter.unusedVariables false
set_option linter.unusedSimpArgs false
/-- the part of a heap at the addresses that S tells -/
noncomputable def sub (h : Heap) (S : Nat → Bool) : Heap := hideAll h ((List.range h.objs.size).filter fun b => !S b)
theorem sub_get {h : Heap} {S : Nat → Bool} {b : Addr} {o : Obj} (e : h.get? b = some o) (hs : S b = true) : (sub h S).get? b = some o :=
  hideAll_get _ e fun hm => by
    have := (List.mem_filter.mp hm).2
    rw [hs] at this; cases this
theorem of_sub {h : Heap} {S : Nat → Bool} : Kp (sub h S) h := fun b o e => of_hideAll _ e
theorem sub_none {h : Heap} {S : Nat → Bool} {b : Addr} (hs : S b = false) : (sub h S).get? b = none := by
  cases q : (sub h S).get? b with
  | none => rfl
  | some o =>
    have hm : b ∈ ((List.range h.objs.size).filter fun b => !S b) := List.mem_filter.mpr ⟨List.mem_range.mpr (Heap.lt_size (of_sub _ _ q)), by rw [hs]; rfl⟩
    have := hideAll_none _ (h := h) hm
    rw [show hideAll h _ = sub h S from rfl, q] at this
    cases this
/-- G and all that is new in h since h₀ -/
noncomputable def mix (G h₀ h : Heap) : Heap := sub h fun b => (h₀.get? b).isNone || (G.get? b).isSome
theorem mix_old {G h₀ h : Heap} (k : Kp G h) : Kp G (mix G h₀ h) := fun b o e => sub_get (k b o e) (by rw [e]; simp)
theorem mix_new {G h₀ h : Heap} {b : Addr} {o : Obj} (hn : h₀.get? b = none) (e : h.get? b = some o) : (mix G h₀ h).get? b = some o := sub_get e (by rw [hn]; rfl)
theorem mix_kp {G h₀ h : Heap} : Kp (mix G h₀ h) h := of_sub
theorem mix_none {G h₀ h : Heap} {b : Addr} {o : Obj} (hn : h₀.get? b = some o) (e : G.get? b = none) : (mix G h₀ h).get? b = none := sub_none (by rw [e, hn]; rfl)
/-- G and one object of h -/
noncomputable def put (G h : Heap) (D : Addr) : Heap := sub h fun b => decide (b = D) || (G.get? b).isSome
theorem put_old {G h : Heap} {D : Addr} (k : Kp G h) : Kp G (put G h D) := fun b o e => sub_get (k b o e) (by rw [e]; simp)
theorem put_new {G h : Heap} {D : Addr} {o : Obj} (e : h.get? D = some o) : (put G h D).get? D = some o := sub_get e (by simp)
theorem put_kp {G h : Heap} {D : Addr} : Kp (put G h D) h := of_sub
theorem put_none {G h : Heap} {D b : Addr} (hn : b ≠ D) (e : G.get? b = none) : (put G h D).get? b = none := sub_none (by rw [e, decide_eq_false hn]; rfl)
theorem kp_none {G h : Heap} {b : Addr} (k : Kp G h) (e : h.get? b = none) : G.get? b = none := by
  cases q : G.get? b with
  | none => rfl
  | some o => rw [k _ _ q] at e; cases e
theorem ltS {h : Heap} {b : Nat} {o : Obj} (e : h.get? b = some o) : @LT.lt Nat _ b h.objs.size := Heap.lt_size e
theorem kp_push (h : Heap) (o : Obj) : Kp h (h.push o) := fun _ _ e => Heap.get?_push_of_some _ e
theorem Kp.refl (h : Heap) : Kp h h := fun _ _ e => e
noncomputable abbrev lst (ys : List Value) : Obj := { cls := .type "list", data := .seq ys.toArray ys.length }
theorem lst_list {h : Heap} {D : Addr} {ys : List Value} (e : h.get? D = some (lst ys)) : h.IsList D ys.toArray := ⟨_, e, rfl, _, rfl⟩
section
variable {prog : Program} {w : World} {A : Around} {E : Value → Shared → Prop} {s : Shared} {env : Env}
/-- what the source of a comprehension is -/
noncomputable def Src (h : Heap) (n : Nat) (P : Nat → Value → Prop) (xv : Value) : Prop :=
  (∃ ax its, xv = .ref ax ∧ h.IsList ax its ∧ its.size = n ∧ ∀ i v, its[i]? = some v → P i v) ∨
  (∃ r a t u v, xv = .ref r ∧ IsRange h r a (a + n) 1 t u v ∧ Builtin.Range.small a (a + n) 1 = true ∧ Builtin.Range.rangeSize a (a + n) 1 = ((n : Nat) : Int) ∧ ∀ i t, P i (.int (a + (i : Int)) t))
/-- one turn -/
noncomputable abbrev Turn (s : Shared) (G h : Heap) (J : List Value → Heap → Prop) (s' : Shared) (ys : List Value) : Prop :=
  ∃ h' tk', s' = { s with heap := h', toks := tk' } ∧ Kp h h' ∧ ∀ G₂, Kp G G₂ → (∀ b o, h.get? b = none → h'.get? b = some o → G₂.get? b = some o) → J ys G₂
/-- the end of a comprehension -/
noncomputable abbrev LcEnd (s : Shared) (G : Heap) (J : List Value → Heap → Prop) (Q : Value → Shared → Prop) : Prop :=
  ∀ (D : Nat) ys h' tk' G', Kp s.heap h' → s.heap.get? D = none → Kp G G' → Kp G' h' → G'.get? D = some (lst ys) → J ys G' → (∀ b o, s.heap.get? b = some o → G.get? b = none → G'.get? b = none) → Q (.ref D) { s with heap := h', toks := tk' }
/-- the turns of a comprehension over a list, whatever its target -/
theorem lc_turns {elt target iter : Expr} {ifs : List Expr} {scope : Scope} {pos : Pos} {it acc : Value} {cenv : Env} {R : Result → Shared → Prop} (I : Nat → Shared → Prop)
    (turn : ∀ n s, I n s → wpAny (model prog w) A (pyNext it) (fun r s₁ => match r with
      | none => R (.ok .next) s₁
      | some v => wpAny (model prog w) A (letOwnedTupleGo target it v) (fun _ s₀ => wpAny (model prog w) A (assign target cenv v) (fun _ s₂ =>
          wpAny (model prog w) A (forIn ifs true fun c r => if r = true then do let ok ← isTrue c cenv (eval c cenv); pure (ForInStep.yield ok) else pure (ForInStep.yield r)) (fun ok s₃ =>
            if ok = true then wpAny (model prog w) A (eval elt cenv) (fun x s₄ =>
              wpAny (model prog w) A (call (.builtin "list.append") [acc, x]) (fun _ s₅ => ∃ m, m < n ∧ I m s₅) (notedBy (model prog w) A cenv fun e s' => R (.error e) s') s₄) (notedBy (model prog w) A cenv fun e s' => R (.error e) s') s₃
            else ∃ m, m < n ∧ I m s₃) (notedBy (model prog w) A cenv fun e s' => R (.error e) s') s₂) (notedBy (model prog w) A cenv fun e s' => R (.error e) s') s₀) (notedBy (model prog w) A cenv fun e s' => R (.error e) s') s₁) (notedBy (model prog w) A cenv fun e s' => R (.error e) s') s)
    (n : Nat) (h : I n s) : codeAny (model prog w) A (.compLoop (.ListComp elt [⟨target, iter, ifs, 0⟩] scope pos) 0 it acc cenv) R s := by
  refine codeAny_loop rfl I (fun k s' hI => ?_) n h
  show wpAny _ A ((compTurn (.ListComp elt [⟨target, iter, ifs, 0⟩] scope pos) 0 it acc cenv).onRaise (fun x => do noteFrame x cenv; theTreesLotGoes x)) _ _ s'
  refine wpAny_noted ?_
  rw [compTurn_list]
  refine wpAny_bind (wpAny_standAt (wpAny_bind (wpAny_mono (turn k s' hI) (fun r s₁ h₁ => ?_) fun _ _ e => e)))
  cases r with
  | none => exact wpAny_pure h₁
  | some v =>
    refine wpAny_bind (wpAny_mono h₁ (fun _ s₀ h₀ => wpAny_bind (wpAny_mono h₀ (fun _ s₂ h₂ => wpAny_bind (wpAny_mono h₂ (fun ok s₃ h₃ => ?_) fun _ _ e => e)) fun _ _ e => e)) fun _ _ e => e)
    cases ok with
    | true => exact wpAny_bind (wpAny_bind (wpAny_mono h₃ (fun x s₄ h₄ => wpAny_bind (wpAny_mono h₄ (fun _ s₅ h₅ => wpAny_pure (wpAny_pure ⟨rfl, h₅⟩)) fun _ _ e => e)) fun _ _ e => e))
    | false => exact wpAny_pure ⟨rfl, h₃⟩
theorem lc_block {elt iter target : Expr} {ifs : List Expr} {scope : Scope} {cl : List (Str × Addr)} {pos : Pos} {I : Nat} {fp : List Addr} {n : Nat} {P : Nat → Value → Prop} {St : Nat → Heap → Prop} {G : Heap} {J : Nat → List Value → Heap → Prop} {Bd : Value → (Str → Option Value) → Prop}
    {Q : Value → Shared → Prop} {s₂ : Shared}
    (W : Walks prog w A I fp [I] n P St) (hsz : n ≤ 100) (hIo : ∀ i h, St i h → ∃ o, h.get? I = some o)
    (hcell : ∀ y ∈ scope.names, y.2 ≠ .cell) (hkind : scope.kind = .function) (hst : St 0 s₂.heap) (hfp : ∀ b ∈ fp, b < s₂.heap.objs.size)
    (hG : Kp G s₂.heap) (hGI : G.get? I = none) (hJ : ∀ i ys G G', J i ys G → Kp G G' → J i ys G') (hJ0 : J 0 [] G) (hz : s.heap.objs.size ≤ I ∧ Kp s.heap s₂.heap ∧ ∃ tk, s₂ = { s with heap := s₂.heap, toks := tk })
    (ht : ∀ (i : Nat) (v : Value) (s' : Shared) (Q' : Unit → Shared → Prop) (E' : Value → Shared → Prop), P i v → St (i + 1) s'.heap → Q' () s' → wpAny (model prog w) A (letOwnedTupleGo target (.ref I) v) Q' E' s')
    (hasg : ∀ (i : Nat) (v : Value) (C : Addr) (s' : Shared) (m' : Str → Option Value) (E' : Value → Shared → Prop) (Q' : Unit → Shared → Prop), P i v → Kp G s'.heap → s'.heap.Ns C m' →
      (∀ h' m₂ tk, Bd v m₂ → h'.Ns C m₂ → (∀ b o, b ≠ C → s'.heap.get? b = some o → h'.get? b = some o) → Q' () { s' with heap := h', toks := tk }) → wpAny (model prog w) A (assign target (compEnvC scope cl C env) v) Q' E' s')
    (body : ∀ (i : Nat) (v : Value) (ys : List Value) (G₁ h : Heap) (tk : Nat) (C : Addr) (m₂ : Str → Option Value) (E' : Value → Shared → Prop), i < n → P i v → J i ys G₁ → Kp G G₁ → Kp G₁ h → Kp s.heap h → h.Ns C m₂ → Bd v m₂ →
      wpAny (model prog w) A (forIn ifs true fun c r => if r = true then do let ok ← isTrue c (compEnvC scope cl C env) (eval c (compEnvC scope cl C env)); pure (ForInStep.yield ok) else pure (ForInStep.yield r)) (fun ok s' =>
        if ok = true then wpAny (model prog w) A (eval elt (compEnvC scope cl C env)) (fun y s'' => Turn s G₁ h (J (i + 1)) s'' (ys ++ [y])) E' s' else Turn s G₁ h (J (i + 1)) s' ys) E' { s with heap := h, toks := tk })
    (hq : LcEnd s G (J n) Q) :
    wpAny (model prog w) A (newList []) (fun acc s₃ => wpAny (model prog w) A (newFunctionEnv scope env.globals cl [] env.qual none .none (some env)) (fun cenv s₄ =>
      codeAny (model prog w) A (.compStart (.ListComp elt [⟨target, iter, ifs, 0⟩] scope pos) 0 (.ref I) acc { cenv with scope := relabel scope env }) (compPost (model prog w) A E none Q acc cenv.locals) s₄) E s₃) E s₂ := by
  obtain ⟨z3, z4, tkz, z5⟩ := hz
  obtain ⟨hp₂, g, d, t₂, os⟩ := s₂
  obtain ⟨hp, g', d', t, os'⟩ := s
  simp only [Shared.mk.injEq] at z5
  obtain ⟨-, rfl, rfl, rfl, rfl⟩ := z5
  dsimp only at *
  refine wpAny_newObj_type (wpAny_newFunctionEnv hcell (by intro y hy; simp at hy) (fun h₁ hns₁ hsb₁ => ?_) hkind)
  dsimp only at hns₁ hsb₁ ⊢
  generalize hH2 : hp₂.push { cls := .type "list", dict := none, data := .seq ([] : List Value).toArray } = H2 at hns₁ hsb₁ ⊢
  have hC : H2.objs.size = hp₂.objs.size + 1 := by rw [← hH2, Heap.size_push]
  have hDC : hp₂.objs.size ≠ H2.objs.size := by rw [hC]; exact Nat.ne_of_lt (Nat.lt_succ_self _)
  have below : ∀ b, b < hp₂.objs.size → b ≠ H2.objs.size ∧ b ≠ hp₂.objs.size := fun b hb => ⟨by rw [hC]; exact Nat.ne_of_lt (Nat.lt_succ_of_lt hb), Nat.ne_of_lt hb⟩
  have hDf : hp₂.objs.size ∉ fp := fun hm => Nat.lt_irrefl _ (hfp _ hm)
  have hCf : H2.objs.size ∉ fp := fun hm => by have := hfp _ hm; rw [hC] at this; exact Nat.lt_irrefl _ (Nat.lt_of_succ_lt this)
  have hIf : I ∈ fp := W.sub I (List.mem_singleton.mpr rfl)
  have hIlt : (I : Nat) < hp₂.objs.size := hfp I hIf
  have old : Kp hp₂ h₁ := fun b o e => hsb₁.extBut b o (below b (Heap.lt_size e)).1 (Heap.get?_push_of_some _ (hH2 ▸ Heap.get?_push_of_some _ e))
  have hacc : h₁.get? hp₂.objs.size = some (lst []) := hsb₁.extBut _ _ hDC (Heap.get?_push_of_some _ (hH2 ▸ Heap.get?_push_size _ rfl))
  have hst₁ : St 0 h₁ := W.frame _ _ _ hst fun b _ o e => old b o e
  have hCI : I ≠ H2.objs.size := (below I hIlt).1
  have hDI : I ≠ hp₂.objs.size := (below I hIlt).2
  have gD : G.get? hp₂.objs.size = none := kp_none hG (Heap.get?_none_of_le (Nat.le_refl _))
  have gC : G.get? H2.objs.size = none := kp_none hG (Heap.get?_none_of_le (by rw [hC]; exact Nat.le_succ _))
  have hzI : hp.get? I = none := Heap.get?_none_of_le z3
  have zC : H2.objs.size ≠ I := fun q => hCI q.symm
  have loop : ∀ s₃ : Shared, s₃ = ⟨h₁, g, d, t₂ + ([] : List (Str × Value)).length, os⟩ →
      codeAny (model prog w) A (.compLoop (.ListComp elt [⟨target, iter, ifs, 0⟩] scope pos) 0 (.ref I) (.ref hp₂.objs.size) (compEnvC scope cl H2.objs.size env))
        (compPost (model prog w) A E none Q (.ref hp₂.objs.size) H2.objs.size) s₃ := by
    rintro s₃ rfl
    refine lc_turns
      (fun k s' => ∃ h' tk i ys m' G', s' = ⟨h', g, d, tk, os⟩ ∧ i ≤ n ∧ k = n + 1 - i ∧ ys.length ≤ i ∧ St i h' ∧ h'.Ns H2.objs.size m' ∧ h'.get? hp₂.objs.size = some (lst ys) ∧ Kp G G' ∧ Kp G' h' ∧
        G'.get? I = none ∧ G'.get? H2.objs.size = none ∧ G'.get? hp₂.objs.size = none ∧ Kp hp h' ∧ J i ys G' ∧ (∀ b o, hp.get? b = some o → G.get? b = none → G'.get? b = none)) ?_ (n + 1)
      ⟨h₁, _, 0, [], _, G, rfl, Nat.zero_le _, rfl, Nat.le_refl _, hst₁, hns₁, hacc, Kp.refl _, Kp.trans hG old, hGI, gC, gD, Kp.trans z4 old, hJ0, fun _ _ _ e => e⟩
    · rintro k s' ⟨h', tk, i, ys, m', G', rfl, hi, rfl, hyl, hst', hn', hd', gG, gh, g1, g2, g3, zk, hj, hold⟩
      by_cases hlt : i < n
      · refine W.item i _ _ _ hlt hst' fun v h₂ tk₂ hPv hst₂ hk₂ => ?_
        dsimp only at hk₂ ⊢
        have n₂ : h₂.Ns H2.objs.size m' := hn'.at' fun o e => hk₂ _ o (by simpa using zC) e
        have d₂ : h₂.get? hp₂.objs.size = some (lst ys) := hk₂ _ _ (by simpa using Ne.symm hDI) hd'
        have gh₂ : Kp G' h₂ := fun b o e => hk₂ b o (by intro q; rw [List.mem_singleton.mp q, g1] at e; cases e) (gh b o e)
        have zk₂ : Kp hp h₂ := fun b o e => hk₂ b o (by intro q; rw [List.mem_singleton.mp q, hzI] at e; cases e) (zk b o e)
        refine ht i v _ _ _ hPv hst₂ ?_
        refine hasg i v _ _ _ _ _ hPv (Kp.trans gG gh₂) n₂ fun h₃ m₃ tk₃ hb₃ n₃ s₃ => ?_
        dsimp only at s₃ ⊢
        have d₃ : h₃.get? hp₂.objs.size = some (lst ys) := s₃ _ _ hDC d₂
        have gh₃ : Kp G' h₃ := fun b o e => s₃ b o (fun q => by rw [q, g2] at e; cases e) (gh₂ b o e)
        have hzC : hp.get? H2.objs.size = none := Heap.get?_none_of_le (by omega)
        have zk₃ : Kp hp h₃ := fun b o e => s₃ b o (fun q => by rw [q, hzC] at e; cases e) (zk₂ b o e)
        have hst₃ : St (i + 1) h₃ := W.frame _ _ _ hst₂ fun b hb o e => s₃ b o (fun q => hCf (by have q' : b = H2.objs.size := q; rw [← q']; exact hb)) e
        have fin : ∀ s₄ ys', ys'.length ≤ i + 1 → Turn ⟨hp, g, d, t, os⟩ G' h₃ (J (i + 1)) s₄ ys' → ∃ h₄ tk₄ G₄, s₄ = ⟨h₄, g, d, tk₄, os⟩ ∧ Kp h₃ h₄ ∧ St (i + 1) h₄ ∧ h₄.Ns H2.objs.size m₃ ∧ h₄.get? hp₂.objs.size = some (lst ys) ∧ Kp G G₄ ∧ Kp G₄ h₄ ∧
            G₄.get? I = none ∧ G₄.get? H2.objs.size = none ∧ G₄.get? hp₂.objs.size = none ∧ Kp hp h₄ ∧ J (i + 1) ys' G₄ ∧ (∀ b o, hp.get? b = some o → G.get? b = none → G₄.get? b = none) := by
          rintro s₄ ys' hl ⟨h₄, tk₄, rfl, k₄, j₄⟩
          obtain ⟨oI, eI⟩ := hIo _ _ hst₃
          obtain ⟨oC, eC, -⟩ := LCg.ns_obj n₃
          refine ⟨h₄, tk₄, mix G' h₃ h₄, rfl, k₄, W.frame _ _ _ hst₃ fun b _ o e => k₄ b o e, n₃.at' fun o e => k₄ _ o e, k₄ _ _ d₃, Kp.trans gG (mix_old (Kp.trans gh₃ k₄)), mix_kp, mix_none eI g1, mix_none eC g2, mix_none d₃ g3,
            Kp.trans zk₃ k₄, j₄ _ (mix_old (Kp.trans gh₃ k₄)) (fun b o hb e => mix_new hb e), fun b o hb e => mix_none (zk₃ b o hb) (hold b o hb e)⟩
        refine wpAny_mono (body i v ys G' h₃ tk₃ H2.objs.size m₃ _ hlt hPv hj gG gh₃ zk₃ n₃ hb₃) (fun ok s₄ h₄ => ?_) fun _ _ e => e
        cases ok with
        | false =>
          simp only [Bool.false_eq_true, if_false] at h₄ ⊢
          obtain ⟨h₅, tk₄, G₄, rfl, k₄, st₄, n₄, d₄, b1, b2, b3, b4, b5, b6, b8, b9⟩ := fin _ ys (by omega) h₄
          exact ⟨n + 1 - (i + 1), by omega, h₅, tk₄, i + 1, ys, _, G₄, rfl, hlt, rfl, by omega, st₄, n₄, d₄, b1, b2, b3, b4, b5, b6, b8, b9⟩
        | true =>
          simp only [if_true] at h₄ ⊢
          refine wpAny_mono h₄ (fun y s₅ q₅ => ?_) fun _ _ e => e
          obtain ⟨h₅, tk₅, G₅, rfl, k₅, st₅, n₅, d₅, b1, b2, b3, b4, b5, b6, b8, b9⟩ := fin _ (ys ++ [y]) (by simp; omega) q₅
          refine append_at (hsz := by show ys.toArray.size ≤ sizeLine; rw [List.size_toArray, sizeLine_eq]; omega) d₅ fun h₆ hs₆ hD₆ => ?_
          have hzD : hp.get? hp₂.objs.size = none := Heap.get?_none_of_le (by omega)
          refine ⟨n + 1 - (i + 1), by omega, h₆, tk₅, i + 1, ys ++ [y], _, G₅, rfl, hlt, rfl, by rw [List.length_append, List.length_singleton]; omega, W.frame _ _ _ st₅ fun b hb o e => hs₆.extBut b o (fun q => hDf (q ▸ hb)) e,
            n₅.sameBut hs₆ (Ne.symm hDC), hD₆.trans (congrArg some (LCg.lst_snoc ys y)), b1, fun b o e => hs₆.extBut b o (fun q => by rw [q, b5] at e; cases e) (b2 b o e), b3, b4, b5, fun b o e => hs₆.extBut b o (fun q => by rw [q, hzD] at e; cases e) (b6 b o e), b8, b9⟩
      · obtain rfl : i = n := Nat.le_antisymm hi (Nat.not_lt.mp hlt)
        refine W.done _ _ _ hst' fun h₂ tk₂ hk₂ => ?_
        dsimp only at hk₂ ⊢
        refine ⟨m', hn'.at' fun o e => hk₂ _ o (by simpa using zC) e, fun h₃ s₃ => ?_⟩
        dsimp only at s₃ ⊢
        have hzC : hp.get? H2.objs.size = none := Heap.get?_none_of_le (by omega)
        have k₃ : ∀ b o, b ≠ I → b ≠ H2.objs.size → h'.get? b = some o → h₃.get? b = some o := fun b o q1 q2 e => s₃.extBut b o q2 (hk₂ b o (by simpa using q1) e)
        have dd : h₃.get? hp₂.objs.size = some (lst ys) := k₃ _ _ (Ne.symm hDI) hDC hd'
        have gh₃ : Kp G' h₃ := fun b o e => k₃ b o (fun q => by rw [q, g1] at e; cases e) (fun q => by rw [q, g2] at e; cases e) (gh b o e)
        have zk₃ : Kp hp h₃ := fun b o e => k₃ b o (fun q => by rw [q, hzI] at e; cases e) (fun q => by rw [q, hzC] at e; cases e) (zk b o e)
        refine hq hp₂.objs.size ys h₃ tk₂ (put G' h₃ hp₂.objs.size) zk₃ (Heap.get?_none_of_le (show hp.objs.size ≤ hp₂.objs.size by omega)) (Kp.trans gG (put_old gh₃)) put_kp (put_new dd) (hJ _ _ _ _ hj (put_old gh₃)) fun b o hb e => put_none ?_ (hold b o hb e)
        have hb' := ltS hb
        show b ≠ hp₂.objs.size
        have : @LT.lt Nat _ b hp.objs.size := hb'
        exact Nat.ne_of_lt (Nat.lt_of_lt_of_le this (by omega))
  exact codeAny_compStart_list (loop _ rfl) (W.self 0 _ _ _ hst₁ (loop _ rfl))
end
end
end Mine
namespace Mine
section
open PySem PySem.W PySem.W.X PyProof.Rows PySem.Spec PySem.Calls
set_option maxRecDepth 100000
set_option maxHeartbeats 0
set_option linter.unusedVariables false
set_option linter.unusedSimpArgs false
section
variable {prog : Program} {w : World} {A : Around} {E : Value → Shared → Prop} {s : Shared} {env : Env}
/-- what is asked of a comprehension once its source is told -/
structure LcGo (prog : Program) (w : World) (A : Around) (env : Env) (elt target : Expr) (ifs : List Expr) (scope : Scope) (cl : List (Str × Addr)) (Q : Value → Shared → Prop) (s : Shared) (n : Nat) (P : Nat → Value → Prop) (G : Heap) (J : Nat → List Value → Heap → Prop) (Bd : Value → (Str → Option Value) → Prop) : Prop where
  hh : A.handled = none
  sz : n ≤ 100
  hG : Kp G s.heap
  mono : ∀ i ys G G', J i ys G → Kp G G' → J i ys G'
  zero : J 0 [] G
  asg : ∀ (i : Nat) (v : Value) (C : Addr) (s' : Shared) (m' : Str → Option Value) (E' : Value → Shared → Prop) (Q' : Unit → Shared → Prop), P i v → Kp G s'.heap → s'.heap.Ns C m' →
      (∀ h' m₂ tk, Bd v m₂ → h'.Ns C m₂ → (∀ b o, b ≠ C → s'.heap.get? b = some o → h'.get? b = some o) → Q' () { s' with heap := h', toks := tk }) → wpAny (model prog w) A (assign target (compEnvC scope cl C env) v) Q' E' s'
  body : ∀ (i : Nat) (v : Value) (ys : List Value) (G₁ h : Heap) (tk : Nat) (C : Addr) (m₂ : Str → Option Value) (E' : Value → Shared → Prop), i < n → P i v → J i ys G₁ → Kp G G₁ → Kp G₁ h → Kp s.heap h → h.Ns C m₂ → Bd v m₂ →
      wpAny (model prog w) A (forIn ifs true fun c r => if r = true then do let ok ← isTrue c (compEnvC scope cl C env) (eval c (compEnvC scope cl C env)); pure (ForInStep.yield ok) else pure (ForInStep.yield r)) (fun ok s' =>
        if ok = true then wpAny (model prog w) A (eval elt (compEnvC scope cl C env)) (fun y s'' => Turn s G₁ h (J (i + 1)) s'' (ys ++ [y])) E' s' else Turn s G₁ h (J (i + 1)) s' ys) E' { s with heap := h, toks := tk }
  fin : LcEnd s G (J n) Q
theorem lc_ {elt iter target : Expr} {ifs : List Expr} {scope : Scope} {cl : List (Str × Addr)} {pos : Pos} {Q : Value → Shared → Prop}
    (hclos : closureFor scope env = pure cl) (hcell : ∀ y ∈ scope.names, y.2 ≠ .cell) (hkind : scope.kind = .function) (hnames : ∀ y ∈ scope.names, y.2 = .local → scope.names.lookup y.1 = some .local)
    (ht : ∀ it v, letOwnedTupleGo target it v = pure ())
    (h : wpAny (model prog w) A (eval iter env) (fun xv s₁ => ∃ n P G J Bd, Src s₁.heap n P xv ∧ LcGo prog w A env elt target ifs scope cl Q s₁ n P G J Bd) E s)
    (hs : ∀ x, foldedSetIterable iter env x = pure x := by intro _; rfl) :
    wpAny (model prog w) A (eval (.ListComp elt [⟨target, iter, ifs, 0⟩] scope pos) env) Q E s := by
  rw [eval_ListComp]
  refine wpAny_comprehension_free (use := none) rfl hs hclos hkind hnames (wpAny_mono h (fun xv s₁ h₁ => ?_) fun _ _ e => e)
  obtain ⟨n, P, G, J, Bd, S, L⟩ := h₁
  have up : ∀ o, Kp s₁.heap (s₁.heap.push o) := fun o => kp_push _ o
  rcases S with ⟨ax, its, rfl, hl, rfl, hP⟩ | ⟨r, a, t, u, v, rfl, hr, hsm, hn, hP⟩
  · have hlt : ax < s₁.heap.objs.size := by obtain ⟨_, e, _⟩ := hl; exact Heap.lt_size e
    refine wpAny_pyIter_list hl ?_
    have W : Walks prog w A s₁.heap.objs.size [s₁.heap.objs.size, ax] [s₁.heap.objs.size] its.size P (fun i h => h.IsListIter s₁.heap.objs.size ax i ∧ h.IsList ax its) :=
      let W := Walks.list (prog := prog) (w := w) L.hh s₁.heap.objs.size ax (Nat.ne_of_lt hlt) its
      { sub := W.sub, frame := W.frame, done := W.done, self := W.self, item := fun i s Q E hi st hQ => W.item i s Q E hi st fun v h' tk hp => hQ v h' tk (hP i v hp) }
    refine lc_block (s := s₁) (s₂ := { s₁ with heap := s₁.heap.push { cls := .type "list_iterator", data := .fields #[.ref ax, .int 0 0] } }) W L.sz (fun i h st => by obtain ⟨o, e, _⟩ := st.1; exact ⟨o, e⟩) hcell hkind ⟨⟨_, Heap.get?_push_size _ rfl, rfl, rfl⟩, hl.push _⟩ (fun b hb => ?_) (Kp.trans L.hG (up _)) (kp_none L.hG (Heap.get?_none_of_le (Nat.le_refl _))) L.mono L.zero
      ⟨Nat.le_refl _, up _, _, rfl⟩ (fun i v s' Q' E' _ _ hq => by rw [ht]; exact wpAny_pure hq) L.asg L.body L.fin
    show b < (s₁.heap.push _).objs.size
    rw [Heap.size_push]
    rcases List.mem_cons.mp hb with rfl | hb
    · exact Nat.lt_succ_self _
    · rw [List.mem_singleton.mp hb]; exact Nat.lt_succ_of_lt hlt
  · refine wpAny_pyIter_range hr hsm ?_
    have W : Walks prog w A s₁.heap.objs.size [s₁.heap.objs.size] [s₁.heap.objs.size] n P (fun i h => IsRangeIter h s₁.heap.objs.size (a + (i : Nat) * 1) ((n : Int) - (i : Nat)) 1) :=
      let W := LCg.range_walks (prog := prog) (w := w) (I := s₁.heap.objs.size) L.hh a n
      { sub := W.sub, frame := W.frame, done := W.done, self := W.self, item := fun i s Q E hi st hQ => W.item i s Q E hi st fun v h' tk hp => hQ v h' tk (by obtain ⟨t, rfl⟩ := hp; exact hP i t) }
    refine lc_block (s := s₁) (s₂ := { s₁ with heap := s₁.heap.push _ }) W L.sz (fun i h st => ⟨_, st⟩) hcell hkind (by show IsRangeIter _ _ _ _ _; rw [hn]; simpa using Heap.get?_push_size _ rfl) (fun b hb => ?_) (Kp.trans L.hG (up _)) (kp_none L.hG (Heap.get?_none_of_le (Nat.le_refl _))) L.mono L.zero
      ⟨Nat.le_refl _, up _, _, rfl⟩ (fun i v s' Q' E' _ _ hq => by rw [ht]; exact wpAny_pure hq) L.asg L.body L.fin
    rw [List.mem_singleton.mp hb]
    show s₁.heap.objs.size < (s₁.heap.push _).objs.size
    rw [Heap.size_push]; exact Nat.lt_succ_self _
/-- one name as the target -/
theorem asg_name {x : Str} {px : Pos} {scope : Scope} {cl : List (Str × Addr)} {v : Value} {C : Addr} {m' : Str → Option Value} {Q' : Unit → Shared → Prop} (hkind : scope.kind = .function) (hx : scope.names.lookup x = some .local) (hn : s.heap.Ns C m')
    (h : ∀ h' m₂ tk, m₂ x = some v → h'.Ns C m₂ → (∀ b o, b ≠ C → s.heap.get? b = some o → h'.get? b = some o) → Q' () { s with heap := h', toks := tk }) : wpAny (model prog w) A (assign (.Name x px) (compEnvC scope cl C env) v) Q' E s :=
  wpAny_assign_Name (wpAny_storeName_local (lookup_relabel_local hx) hn (fun h₃ hn₃ hs₃ => h h₃ _ _ (by simp) hn₃ fun b o q e => hs₃.extBut b o q e) (by simp [compEnvC, relabel, hkind]))
end
end
end Mine
namespace Mine
section
open PySem PySem.W PySem.W.X PyProof.Rows PySem.Spec PySem.Calls
set_option maxRecDepth 100000
set_option maxHeartbeats 0
set_option linter.unusedVariables false
set_option linter.unusedSimpArgs false
section
variable {prog : Program} {w : World} {A : Around} {E : Value → Shared → Prop} {s : Shared} {env : Env}
/-- a for loop over what walks at I -/
theorem floop {x : Str} {px : Pos} {body : List Stmt} {I : Addr} {n : Nat} {P : Nat → Value → Prop} {St : Nat → Heap → Prop} {Q : Flow → Shared → Prop}
    (W : Walks prog w A I [I] [I] n P St) (Inv : Nat → Heap → Prop) (hIo : ∀ i h, St i h → ∃ o, h.get? I = some o) (st0 : St 0 s.heap) (i0 : Inv 0 s.heap)
    (stab : ∀ i h h', Inv i h → (∀ b o, b ≠ I → h.get? b = some o → h'.get? b = some o) → Inv i h')
    (turn : ∀ (i : Nat) (v : Value) (h : Heap) (tk : Nat) (oI : Obj), i < n → P i v → Inv i h → h.get? I = some oI → wpAny (model prog w) A (storeName env x v) (fun _ s₁ => wpAny (model prog w) A (execs body env) (fun f s₂ => match f with
        | .next | .cont => ∃ h' tk', s₂ = { s with heap := h', toks := tk' } ∧ h'.get? I = some oI ∧ Inv (i + 1) h'
        | .brk => False
        | .ret v => Q (.ret v) s₂) (fun _ _ => False) s₁) (fun _ _ => False) { s with heap := h, toks := tk })
    (fin : ∀ h tk, Inv n h → Q .next { s with heap := h, toks := tk }) :
    codeAny (model prog w) A (.forLoop (.Name x px) (.ref I) body [] env) (fun r s' => match r with | .ok f => Q f s' | .error e => cameBackBy (model prog w) A env E e s') s := by
  refine codeAny_forLoop (fun k s' => ∃ h tk i, s' = { s with heap := h, toks := tk } ∧ i ≤ n ∧ k = n + 1 - i ∧ St i h ∧ Inv i h) ?_ (n + 1) ⟨s.heap, s.toks, 0, rfl, Nat.zero_le _, rfl, st0, i0⟩
  rintro k s' ⟨h, tk, i, rfl, hi, rfl, st, inv⟩
  by_cases hlt : i < n
  · refine W.item i _ _ _ hlt st fun v h₂ tk₂ hPv st₂ k₂ => ?_
    dsimp only at k₂ ⊢
    have inv₂ : Inv i h₂ := stab _ _ _ inv fun b o hb e => k₂ b o (by simpa using hb) e
    obtain ⟨oI, eI⟩ := hIo _ _ st₂
    refine wpAny_assign_Name (wpAny_mono (turn i v h₂ tk₂ oI hlt hPv inv₂ eI) (fun _ s₁ h₁ => ?_) fun _ _ e => e.elim)
    refine wpAny_mono h₁ (fun f s₃ h₃ => ?_) fun _ _ e => e.elim
    cases f with
    | next =>
      obtain ⟨h', tk', rfl, e', inv'⟩ := h₃
      exact ⟨n + 1 - (i + 1), by omega, h', tk', i + 1, rfl, hlt, rfl, W.frame _ _ _ st₂ (fun b hb o e => by rw [List.mem_singleton.mp hb] at e ⊢; rw [eI] at e; cases e; exact e'), inv'⟩
    | cont =>
      obtain ⟨h', tk', rfl, e', inv'⟩ := h₃
      exact ⟨n + 1 - (i + 1), by omega, h', tk', i + 1, rfl, hlt, rfl, W.frame _ _ _ st₂ (fun b hb o e => by rw [List.mem_singleton.mp hb] at e ⊢; rw [eI] at e; cases e; exact e'), inv'⟩
    | brk => exact h₃.elim
    | ret v => exact h₃
  · obtain rfl : i = n := Nat.le_antisymm hi (Nat.not_lt.mp hlt)
    refine W.done _ _ _ st fun h₂ tk₂ k₂ => ?_
    dsimp only at k₂ ⊢
    exact wpAny_execs_nil (fin h₂ tk₂ (stab _ _ _ inv fun b o hb e => k₂ b o (by simpa using hb) e))
end
/-- a pair of ints -/
noncomputable abbrev tup2 (a b : Value) : Obj := { cls := .type "tuple", data := .seq #[a, b] }
noncomputable def PairAt (h : Heap) (v : Value) (p : Int × Int) : Prop := ∃ T ta tb, v = .ref T ∧ h.get? T = some (tup2 (.int p.1 ta) (.int p.2 tb))
inductive RowIs (h : Heap) : List Value → List (Int × Int) → Prop where
  | nil : RowIs h [] []
  | cons {v p ys rs} : PairAt h v p → RowIs h ys rs → RowIs h (v :: ys) (p :: rs)
theorem PairAt.keeps {h h' : Heap} {v : Value} {p : Int × Int} (x : PairAt h v p) (k : Kp h h') : PairAt h' v p := by
  obtain ⟨T, ta, tb, rfl, e⟩ := x; exact ⟨T, ta, tb, rfl, k _ _ e⟩
theorem RowIs.keeps {h h' : Heap} {ys : List Value} {rs : List (Int × Int)} (x : RowIs h ys rs) (k : Kp h h') : RowIs h' ys rs := by
  induction x with
  | nil => exact .nil
  | cons p _ ih => exact .cons (p.keeps k) ih
theorem RowIs.to {h h' : Heap} {ys : List Value} {rs : List (Int × Int)} (x : RowIs h ys rs) : (∀ T o, .ref T ∈ ys → h.get? T = some o → h'.get? T = some o) → RowIs h' ys rs := by
  induction x with
  | nil => intro _; exact .nil
  | cons p _ ih =>
    intro k
    obtain ⟨T, ta, tb, rfl, e⟩ := p
    exact .cons ⟨T, ta, tb, rfl, k _ _ (.head _) e⟩ (ih fun T o hm => k T o (.tail _ hm))
theorem RowIs.snoc {h : Heap} {ys : List Value} {rs : List (Int × Int)} {v : Value} {p : Int × Int} (x : RowIs h ys rs) (q : PairAt h v p) : RowIs h (ys ++ [v]) (rs ++ [p]) := by
  induction x with
  | nil => exact .cons q .nil
  | cons p _ ih => exact .cons p ih
theorem RowIs.length {h : Heap} {ys : List Value} {rs : List (Int × Int)} (x : RowIs h ys rs) : ys.length = rs.length := by
  induction x with
  | nil => rfl
  | cons _ _ ih => simp [ih]
/-- a row of pairs, as a list at D -/
noncomputable def RowAt (h : Heap) (D : Addr) (rs : List (Int × Int)) : Prop := ∃ ys, h.get? D = some (lst ys) ∧ RowIs h ys rs
noncomputable def tokV (c : Nat) : Int := if (64 < c ∧ c < 91) ∨ (96 < c ∧ c < 123) then 1000 + ((c % 32 : Nat) : Int) else if c < 128 then (c : Int) else 2000 + (c : Int)
noncomputable def flushV (num : Int) : List (Int × Int) := if num ≥ 0 then [(50, num)] else []
noncomputable def rowF : List Nat → Int → List (Int × Int)
  | [], num => flushV num
  | c :: r, num => if 47 < c ∧ c < 58 then rowF r (max num 0 * 10 + c - 48) else flushV num ++ [(tokV c, 0)] ++ rowF r (-1)
noncomputable def rowV (t : Str) : List (Int × Int) := rowF t.cps.toList (-1)
noncomputable abbrev rE (L : Nat) : Env := tEnv 15 105 104 L
/-- the state of _law_row: the frame L, the list D, the pairs in G, aside what J holds -/
structure RS (h0 : Heap) (L D : Nat) (J : List (Addr × Obj)) (G h : Heap) (m : Str → Option Value) (ys : List Value) (rs : List (Int × Int)) : Prop where
  ns : h.Ns L m
  og : Kp h0 G
  gh : Kp G h
  gL : G.get? L = none
  gD : G.get? D = none
  hD : h.get? D = some (lst ys)
  LD : L ≠ D
  row : RowIs G ys rs
  j : ∀ p ∈ J, h.get? p.1 = some p.2 ∧ p.1 ≠ L ∧ p.1 ≠ D ∧ G.get? p.1 = none
  nw : ∀ T, .ref T ∈ ys → h0.get? T = none
section
variable {w : World} {A : Around} {E : Value → Shared → Prop} {s : Shared} {h0 G : Heap} {L D : Nat} {J : List (Addr × Obj)} {m : Str → Option Value} {ys : List Value} {rs : List (Int × Int)}
theorem RS.fr (R : RS h0 L D J G s.heap m ys rs) (hab : h0.objs.size ≤ L) : Fr h0 L s.heap m := ⟨R.ns, Kp.trans R.og R.gh, hab⟩
theorem RS.kp {h h' : Heap} (R : RS h0 L D J G h m ys rs) (k : Kp h h') : RS h0 L D J G h' m ys rs :=
  ⟨R.ns.keeps k, R.og, Kp.trans R.gh k, R.gL, R.gD, k _ _ R.hD, R.LD, R.row, fun p hp => ⟨k _ _ (R.j p hp).1, (R.j p hp).2⟩, R.nw⟩
theorem RS.same {h h' : Heap} {m' : Str → Option Value} (R : RS h0 L D J G h m ys rs) (hs : Heap.SameBut L h h') (hn : h'.Ns L m') : RS h0 L D J G h' m' ys rs :=
  ⟨hn, R.og, fun b o e => hs.extBut b o (fun q => by rw [q, R.gL] at e; cases e) (R.gh b o e), R.gL, R.gD, hs.extBut _ _ (Ne.symm R.LD) R.hD, R.LD, R.row, fun p hp => ⟨hs.extBut _ _ (R.j p hp).2.1 (R.j p hp).1, (R.j p hp).2⟩, R.nw⟩
theorem RS.store {x : Str} {v : Value} {Q : Unit → Shared → Prop} (R : RS h0 L D J G s.heap m ys rs) (h : ∀ h', RS h0 L D J G h' (fun y => if y = x then some v else m y) ys rs → Q () { s with heap := h', toks := s.toks + 1 })
    (hl : (rE L).kindOf x = some .local := by kernel_rfl) : wpAny (model Challenge.rw_mg0016_01.prog w) A (storeName (rE L) x v) Q E s :=
  wpAny_storeName_local hl R.ns (fun h' hn hs => h h' (R.same hs hn)) (by kernel_rfl)
theorem RS.but {h h' : Heap} {I : Addr} (R : RS h0 L D [] G h m ys rs) (gI : G.get? I = none) (IL : I ≠ L) (ID : I ≠ D) (k : ∀ b o, b ≠ I → h.get? b = some o → h'.get? b = some o) : RS h0 L D [] G h' m ys rs :=
  ⟨R.ns.at' fun o e => k _ o (Ne.symm IL) e, R.og, fun b o e => k b o (fun z => by rw [z, gI] at e; cases e) (R.gh b o e), R.gL, R.gD, k _ _ (Ne.symm ID) R.hD, R.LD, R.row, (fun _ hp => nomatch hp), R.nw⟩
theorem RS.aside {h : Heap} {I : Addr} {oI : Obj} (R : RS h0 L D [] G h m ys rs) (gI : G.get? I = none) (IL : I ≠ L) (ID : I ≠ D) (e : h.get? I = some oI) : RS h0 L D [(I, oI)] G h m ys rs :=
  ⟨R.ns, R.og, R.gh, R.gL, R.gD, R.hD, R.LD, R.row, (fun p hp => by obtain rfl := List.mem_singleton.mp hp; exact ⟨e, IL, ID, gI⟩), R.nw⟩
theorem RS.drop {h : Heap} (R : RS h0 L D J G h m ys rs) : RS h0 L D [] G h m ys rs := ⟨R.ns, R.og, R.gh, R.gL, R.gD, R.hD, R.LD, R.row, (fun _ hp => nomatch hp), R.nw⟩
/-- row.append((e1, e2)) -/
theorem app_ {p0 p1 p3 p4 : Pos} {e1 e2 : Expr} {kk : Nat} {x1 x2 : Int} {Q : Flow → Shared → Prop} (R : RS h0 L D J G s.heap m ys rs) (hm : m (nn "row") = some (.ref D)) (hl : ys.length ≤ 50) (hline : (p1.endLine == p4.line) = true)
    (h1 : wpAny (model Challenge.rw_mg0016_01.prog w) A (spliced (backTo p3 (starEach [e1, e2] (rE L)))) (fun vs s' => (∃ t1 t2, vs = [.int x1 t1, .int x2 t2]) ∧ ∃ tk, s' = { s with toks := tk }) E s)
    (h : ∀ G' h' tk v, RS h0 L D J G' h' m (ys ++ [v]) (rs ++ [(x1, x2)]) → Q .next { s with heap := h', toks := tk })
    (hne : starEach [.Tuple [e1, e2] kk p3] (rE L) = [(false, eval (.Tuple [e1, e2] kk p3) (rE L))] := by rfl) :
    wpAny (model Challenge.rw_mg0016_01.prog w) A (exec (.Expr (.Call (.Attribute (.Name (nn "row") p0) (nn "append") p1) [.Tuple [e1, e2] kk p3] [] p4) p4) (rE L)) Q E s := by
  refine wpAny_Expr_any (wpAny_Call_method (T := "list") (id := "list.append") (by with_unfolding_all rfl) (by kernel_rfl) hline PySem.F.plainAttrs_list slot_list_append type_list_append ?_)
  refine wpAny_Name (wpAny_loadName_local (by kernel_rfl) (by kernel_rfl) R.ns hm ⟨⟨_, R.hD, rfl⟩, fun a e => by cases e; exact ⟨_, R.hD, rfl⟩, ?_⟩)
  refine callWith_builtin (by rfl) ?_
  refine evalArgs_plain (spliced_cons ?_)
  refine wpAny_Tuple_spliced (x1 := kk) (wpAny_mono h1 (fun vs s' q => ?_) fun _ _ e => e)
  obtain ⟨⟨t1, t2, rfl⟩, tk, rfl⟩ := q
  refine ⟨by rw [sizeLine_eq]; show 2 ≤ _; omega, spliced_nil ?_⟩
  dsimp only
  have hnw : s.heap.get? s.heap.objs.size = none := Heap.get?_none_of_le (Nat.le_refl _)
  have kp := kp_push s.heap { cls := .type "tuple", data := .seq #[.int x1 t1, .int x2 t2] }
  have hT : (s.heap.push { cls := .type "tuple", data := .seq #[.int x1 t1, .int x2 t2] }).get? s.heap.objs.size = some (tup2 (.int x1 t1) (.int x2 t2)) := Heap.get?_push_size _ rfl
  have R' := R.kp kp
  refine append_at (its := ys.toArray) (n := ys.length) R'.hD (fun h' hs hD' => ?_) (by rw [List.size_toArray, sizeLine_eq]; omega)
  dsimp only at hs hD' ⊢
  have gT : G.get? s.heap.objs.size = none := kp_none R.gh hnw
  have hTD : s.heap.objs.size ≠ D := fun q => by have z := R.hD; rw [← q, hnw] at z; cases z
  have hTL : s.heap.objs.size ≠ L := Nat.ne_of_gt R.ns.lt
  have gh' : Kp G h' := fun b o e => hs.extBut b o (fun q => by rw [q, R.gD] at e; cases e) (R'.gh b o e)
  have hT' : h'.get? s.heap.objs.size = some (tup2 (.int x1 t1) (.int x2 t2)) := hs.extBut _ _ hTD hT
  refine h (put G h' s.heap.objs.size) h' tk (.ref s.heap.objs.size) ⟨R'.ns.sameBut hs R.LD, Kp.trans R.og (put_old gh'), put_kp, put_none (Ne.symm hTL) R.gL, put_none (Ne.symm hTD) R.gD, hD'.trans (congrArg some (LCg.lst_snoc ys _)), R.LD,
    (R.row.keeps (put_old gh')).snoc ⟨_, t1, t2, rfl, put_new hT'⟩, fun p hp => ?_, fun T hT => (List.mem_append.mp hT).elim (R.nw T) fun z => by cases List.mem_singleton.mp z; exact kp_none R.og (kp_none R.gh hnw)⟩
  have q := R'.j p hp
  refine ⟨hs.extBut _ _ q.2.2.1 q.1, q.2.1, q.2.2.1, put_none (fun z => ?_) q.2.2.2⟩
  have := (R.j p hp).1
  rw [z, hnw] at this; cases this
end
end
end Mine
namespace Mine
section
open PySem PySem.W PySem.W.X PyProof.Rows PySem.Spec PySem.Calls
set_option maxRecDepth 100000
set_option maxHeartbeats 0
set_option linter.unusedVariables false
set_option linter.unusedSimpArgs false
/-- what is known of the locals of _law_row -/
structure RM (m : Str → Option Value) (D : Nat) (num : Int) : Prop where
  row : m (nn "row") = some (.ref D)
  num : ∃ t, m (nn "number") = some (.int num t)
theorem RM.set {h0 G h : Heap} {L D : Nat} {J : List (Addr × Obj)} {m : Str → Option Value} {ys : List Value} {rs : List (Int × Int)} {x : Str} {v : Option Value} {num : Int} (M : RM m D num) (R : RS h0 L D J G h (fun y => if y = x then v else m y) ys rs) (h1 : nn "row" ≠ x := by decide +kernel) (h2 : nn "number" ≠ x := by decide +kernel) : RM (fun y => if y = x then v else m y) D num := by
  obtain ⟨mr, t, mn⟩ := M
  exact ⟨(if_neg h1).trans mr, t, (if_neg h2).trans mn⟩
theorem RM.num_ {h0 G h : Heap} {L D : Nat} {J : List (Addr × Obj)} {m : Str → Option Value} {ys : List Value} {rs : List (Int × Int)} {x : Str} {n : Int} {t : Tok} {num : Int} (M : RM m D num) (R : RS h0 L D J G h (fun y => if y = x then some (.int n t) else m y) ys rs) (hx : x = nn "number" := by rfl) : RM (fun y => if y = x then some (.int n t) else m y) D n := by
  subst hx
  exact ⟨(if_neg (by decide +kernel)).trans M.row, t, if_pos rfl⟩
section
variable {w : World} {A : Around} {E : Value → Shared → Prop} {s : Shared} {h0 G : Heap} {L D : Nat} {J : List (Addr × Obj)} {m : Str → Option Value} {ys : List Value} {rs : List (Int × Int)}
theorem rN {x : Str} {pos : Pos} {v : Value} {Q : Value → Shared → Prop} (R : RS h0 L D J G s.heap m ys rs) (hv : m x = some v) (h : Q v s) (hl : (rE L).kindOf x = some .local := by kernel_rfl) (hd : (x == ("__debug__" : Str)) = false := by kernel_rfl) :
    wpAny (model Challenge.rw_mg0016_01.prog w) A (eval (.Name x pos) (rE L)) Q E s := wpAny_Name (wpAny_loadName_local (by kernel_rfl) hl R.ns hv h) hd
/-- lo < code < hi -/
theorem btw_ {lo hi : Int} {p0 p1 p2 p3 : Pos} {c : Int} {tc : Tok} {whole : Sem Value} {Q : Bool → Shared → Prop} (R : RS h0 L D J G s.heap m ys rs) (hm : m (nn "code") = some (.int c tc)) (h : ∀ tk, Q (decide (lo < c ∧ c < hi)) { s with toks := tk }) :
    wpAny (model Challenge.rw_mg0016_01.prog w) A (isTrue (.Compare (.Constant (.int lo) 0 p0) [.Lt, .Lt] [.Name (nn "code") p1, .Constant (.int hi) 0 p2] p3) (rE L) whole) Q E s := by
  refine isTrue_chain (wpAny_Constant_int (test_link (rN (pos := p1) R hm (P.lt_int (wpAny_truthy_bool ?_)))))
  by_cases h1 : lo < c
  · rw [decide_eq_true h1, if_pos rfl]
    refine test_last (wpAny_Constant_int (k := 0) (pos := p2) (P.lt_int (wpAny_truthy_bool ?_)))
    have := h (s.toks + 1 + 1)
    simp only [h1, true_and] at this
    exact this
  · rw [decide_eq_false h1, if_neg Bool.false_ne_true]
    have := h (s.toks + 1)
    simp only [h1, false_and, decide_false] at this
    exact this
/-- if number >= 0: row.append((50, number)) -/
theorem flush_ {p0 p1 p2 p3 p4 p5 p6 p7 p8 p9 : Pos} {kk : Nat} {num : Int} {Q : Flow → Shared → Prop} (R : RS h0 L D J G s.heap m ys rs) (M : RM m D num) (hl : ys.length ≤ 50) (hline : (p5.endLine == p8.line) = true)
    (h : ∀ G' h' tk ys', RS h0 L D J G' h' m ys' (rs ++ flushV num) → Q .next { s with heap := h', toks := tk }) :
    wpAny (model Challenge.rw_mg0016_01.prog w) A (exec (.If (.Compare (.Name (nn "number") p0) [.GtE] [.Constant (.int 0) 0 p1] p2)
      [.Expr (.Call (.Attribute (.Name (nn "row") p4) (nn "append") p5) [.Tuple [.Constant (.int 50) 0 p6, .Name (nn "number") p7] kk p3] [] p8) p8] [] p9) (rE L)) Q E s := by
  obtain ⟨mr, t, mn⟩ := M
  refine wpAny_If (wpAny_isTrue_Compare1 (rN R mn (wpAny_Constant_int (P.ge_int (wpAny_truthy_bool ?_)))))
  unfold flushV at h
  by_cases hz : num ≥ 0
  · rw [if_pos hz] at h
    rw [decide_eq_true hz, if_pos rfl]
    refine wpAny_execs_cons (rest := []) (app_ R mr hl hline (x1 := 50) (x2 := num) ?_ fun G' h' tk v R' => wpAny_execs_nil (h G' h' tk _ R'))
    exact spliced_cons (wpAny_Constant_int (k := 0) (pos := p6) (spliced_cons (rN (pos := p7) R mn (spliced_nil ⟨⟨_, _, rfl⟩, _, rfl⟩))))
  · rw [if_neg hz, List.append_nil] at h
    rw [decide_eq_false hz, if_neg Bool.false_ne_true]
    exact wpAny_execs_nil (h G s.heap _ ys R)
end
section
variable {w : World} {A : Around} {E : Value → Shared → Prop} {Q : Value → Shared → Prop} {s : Shared}
theorem iter_str {prog : Program} {x : Str} {t : Tok} (hQ : ∀ (o : Obj) (St : Nat → Heap → Prop), (∀ A' : Around, A'.handled = none → Walks prog w A' s.heap.objs.size [s.heap.objs.size] [s.heap.objs.size] x.cps.size (SignAt x) St) → (∀ i h, St i h → ∃ o, h.get? s.heap.objs.size = some o) → St 0 (s.heap.push o) →
      Q (.ref s.heap.objs.size) { s with heap := s.heap.push o }) : wpAny (model prog w) A (pyIter (.str x t)) Q E s := by
  cases ha : x.cps.all (· < 128)
  · exact wpAny_pyIter_wide ha (hQ _ _ (fun A' hA => Walks.strWide hA _ x t) (fun i h st => by obtain ⟨o, e, _⟩ := st; exact ⟨o, e⟩) ⟨_, Heap.get?_push_size _ rfl, rfl, rfl⟩)
  · exact wpAny_pyIter_ascii ha (hQ _ _ (fun A' hA => Walks.strAscii hA _ x t) (fun i h st => by obtain ⟨o, e, _⟩ := st; exact ⟨o, e⟩) ⟨_, Heap.get?_push_size _ rfl, rfl, rfl⟩)
theorem row_ {t : Str} {u : Tok} (r : Rm A 2) (X : Bs w s.heap) (hl : t.length ≤ 6)
    (hq : ∀ D h' t', Kp s.heap h' → s.heap.get? D = none → (∀ G, (∀ b o, s.heap.get? b = none → h'.get? b = some o → G.get? b = some o) → RowAt G D (rowV t)) → Q (.ref D) { s with heap := h', toks := t' }) :
    wpAny (model Challenge.rw_mg0016_01.prog w) A (call (.ref 105) [.str t u]) Q E s := by
  refine wpAny_call ?_
  refine call_top (i := 15) (cda := 104) (pm := lm) (binds := [(nn "text", .str t u)]) 2 r X (by kernel_rfl) rfl rfl (tq := 288) (by kernel_rfl) (by kernel_rfl) (by decide +kernel) (by decide +kernel) (by kernel_rfl) fun h₁ F X₁ sz => ?_
  refine wpAny_execs_cons (wpAny_Assign_Name (wpAny_List_spliced (spliced_nil ⟨by rw [sizeLine_eq]; show 0 ≤ _; lia, ?_⟩)))
  dsimp only
  have hnw : h₁.get? h₁.objs.size = none := Heap.get?_none_of_le (Nat.le_refl _)
  have kp := kp_push h₁ { cls := .type "list", data := .seq ([] : List Value).toArray }
  have LD : s.heap.objs.size ≠ h₁.objs.size := Nat.ne_of_lt F.ns.lt
  have hD : (h₁.push { cls := .type "list", data := .seq ([] : List Value).toArray }).get? h₁.objs.size = some (lst []) := Heap.get?_push_size _ rfl
  have R₀ : RS s.heap s.heap.objs.size h₁.objs.size [] s.heap (h₁.push { cls := .type "list", data := .seq ([] : List Value).toArray }) _ [] [] :=
    ⟨F.ns.keeps kp, Kp.refl _, Kp.trans F.keep kp, Heap.get?_none_of_le (Nat.le_refl _), kp_none F.keep hnw, hD, LD, .nil, (fun _ hp => nomatch hp), (fun _ hm => nomatch hm)⟩
  generalize h₁.push { cls := .type "list", data := .seq ([] : List Value).toArray } = h₂ at R₀ ⊢
  generalize h₁.objs.size = D at R₀ hnw LD ⊢
  have hDn : s.heap.get? D = none := kp_none F.keep hnw
  refine RS.store (s := { s with heap := h₂, toks := s.toks + [(nn "text", Value.str t u)].length }) R₀ fun h₃ R₃ => ?_
  refine wpAny_execs_cons (wpAny_Assign_Name (UnaryOp_ (wpAny_Constant_int (P.neg_int ?_))))
  refine RS.store R₃ fun h₄ R₄ => ?_
  dsimp only
  have fin : ∀ J G h tk m ys num rs, RS s.heap s.heap.objs.size D J G h m ys rs → RM m D num → ys.length ≤ 30 → rs ++ flushV num = rowV t →
      wpAny (model Challenge.rw_mg0016_01.prog w) (A.deeper (rE s.heap.objs.size)) (execs ((fdBody (gSt 15)).drop 3) (rE s.heap.objs.size))
      (fun f s' => (match (Except.ok (Flow.ret (match f with | .ret v => v | _ => .none)) : Result) with | .ok (.ret v) => Q v s' | .ok _ => False | .error e => E e s')) (fun _ _ => False) { s with heap := h, toks := tk } := by
    intro J G h tk m ys num rs R M hy he
    refine wpAny_execs_cons (flush_ R M (by lia) (by kernel_rfl) fun G' h' tk' ys' R' => ?_)
    refine wpAny_execs_cons (rest := []) (wpAny_Return_some (rN R' M.row ?_))
    refine hq D h' tk' (Kp.trans R'.og R'.gh) hDn fun G₂ n₂ => ?_
    rw [← he]
    exact ⟨ys', n₂ _ _ hDn R'.hD, R'.row.to fun T o hm e => n₂ T o (R'.nw T hm) (R'.gh T o e)⟩
  refine wpAny_execs_cons (wpAny_For (rN R₄ (v := .str t u) (u_ne (u_ne (by kernel_rfl))) ?_))
  refine iter_str fun oI St hW hIo st0 => ?_
  dsimp only at hW st0 hIo ⊢
  have hr : (A.deeper (rE s.heap.objs.size)).handled = none := r.deeper.hh
  have W := hW _ hr
  have hIn : h₄.get? h₄.objs.size = none := Heap.get?_none_of_le (Nat.le_refl _)
  have gI₀ : s.heap.get? h₄.objs.size = none := kp_none (Kp.trans R₄.og R₄.gh) hIn
  have IL : h₄.objs.size ≠ s.heap.objs.size := Nat.ne_of_gt R₄.ns.lt
  have ID : h₄.objs.size ≠ D := Nat.ne_of_gt (ltS R₄.hD)
  have R₅ := R₄.kp (kp_push h₄ oI)
  generalize h₄.push oI = h₅ at st0 R₅ ⊢
  generalize h₄.objs.size = I at *
  refine floop (s := { s with heap := h₅, toks := s.toks + [(nn "text", Value.str t u)].length + 1 + 1 + 1 + 1 }) W
    (fun i h => ∃ G m ys rs num, RS s.heap s.heap.objs.size D [] G h m ys rs ∧ RM m D num ∧ G.get? I = none ∧ ys.length ≤ 2 * i ∧ rs ++ rowF (t.cps.toList.drop i) num = rowV t ∧ -1 ≤ num ∧ num < 10 ^ i) hIo st0
    ⟨_, _, _, _, -1, R₅, ⟨u_ne u_eq, _, u_eq⟩, gI₀, Nat.le_refl _, rfl, by lia, by decide⟩ ?_ ?_ ?_
  · rintro i h h' ⟨G, m, ys, rs, num, R, M, gI, hy, he, hb1, hb2⟩ k
    exact ⟨G, m, ys, rs, num, R.but gI IL ID k, M, gI, hy, he, hb1, hb2⟩
  · rintro i v h tk oI hi ⟨c, uc, hc, rfl⟩ ⟨G, m, ys, rs, num, R, M, gI, hy, he, hb1, hb2⟩ eI
    have hi' : i < t.length := hi
    have hc' : t.cps.getD i 0 = c := by simp [Array.getD_eq_getD_getElem?, hc]
    rw [drop_at hi', hc'] at he
    have RJ := R.aside gI IL ID eI
    refine RS.store (s := { s with heap := h, toks := tk }) RJ fun h₆ R₆ => ?_
    have X₆ : Bs w h₆ := X.keeps (Kp.trans R₆.og R₆.gh)
    refine absQ fun Q' kQ => ?_
    refine wpAny_execs_cons (wpAny_Assign_Name (wpAny_Call_NameR (nmB (v := .builtin "ord") X₆ (cwB (spliced_cons (rN R₆ (v := .str ⟨#[c]⟩ uc) u_eq (spliced_nil ?_)))))))
    refine P.ord_of_char (RS.store R₆ fun h₇ R₇ => ?_)
    dsimp only
    have X₇ : Bs w h₇ := X.keeps (Kp.trans R₇.og R₇.gh)
    have M₇ := (M.set R₆).set R₇
    obtain ⟨tn, mn₇⟩ := M₇.num
    refine wpAny_execs_cons (rest := []) (wpAny_If (btw_ R₇ u_eq fun tk₈ => ?_))
    rw [rowF] at he
    by_cases hd : 47 < c ∧ c < 58
    · rw [if_pos hd] at he
      rw [decide_eq_true (show (47 : Int) < (c : Nat) ∧ ((c : Nat) : Int) < 58 by lia), if_pos rfl]
      refine wpAny_execs_cons (rest := []) (wpAny_Assign_Name ?_)
      refine wpAny_BinOp (wpAny_BinOp (wpAny_BinOp (wpAny_Call_NameR (nmB (v := .builtin "max") X₇ (cwB ?_)))))
      refine spliced_cons (rN R₇ mn₇ (spliced_cons (wpAny_Constant_int (k := 0) (pos := ⟨91, 33, 91, 34⟩) (spliced_nil ?_))))
      refine max_two_ints r.deeper.hh fun h₈ tk₉ k₈ => ?_
      have R₈ := R₇.kp k₈
      have emax : ∃ tm, (if (0 : Int) > num then Value.int 0 tk₈ else Value.int num tn) = .int (max num 0) tm := by
        by_cases hz : (0 : Int) > num
        · rw [if_pos hz]; exact ⟨_, by rw [Int.max_eq_right (by lia)]⟩
        · rw [if_neg hz]; exact ⟨_, by rw [Int.max_eq_left (by lia)]⟩
      obtain ⟨tm, emax⟩ := emax
      dsimp only
      rw [emax]
      refine wpAny_Constant_int (P.mul_int ?_ (IntMulOk.of_right (by decide +kernel)))
      refine rN R₈ u_eq (P.add_int (wpAny_Constant_int (P.sub_int ?_)))
      refine RS.store R₈ fun h₉ R₉ => wpAny_execs_nil (wpAny_execs_nil ?_)
      have hp : (1 : Int) ≤ 10 ^ i := by have : (0 : Int) < 10 ^ i := Int.pow_pos (by lia); lia
      refine kQ _ _ ?_
      refine ⟨h₉, _, rfl, (R₉.j _ (.head _)).1, G, _, _, _, _, R₉.drop, M₇.num_ R₉, gI, by lia, he, ?_, ?_⟩
      · have := Int.le_max_right num 0; lia
      · rw [Int.pow_succ]
        have : max num 0 < 10 ^ i := Int.max_lt.mpr ⟨hb2, by lia⟩
        lia
    · rw [if_neg hd] at he
      rw [decide_eq_false (show ¬ ((47 : Int) < (c : Nat) ∧ ((c : Nat) : Int) < 58) by lia), if_neg Bool.false_ne_true]
      refine wpAny_execs_cons (flush_ R₇ M₇ (by lia) (by kernel_rfl) fun G₈ h₈ tk₈ ys₈ R₈ => ?_)
      refine wpAny_execs_cons (wpAny_Assign_Name (UnaryOp_ (wpAny_Constant_int (P.neg_int (RS.store R₈ fun h₉ R₉ => ?_)))))
      dsimp only
      have hlen : ys₈.length ≤ 2 * i + 1 := by
        have e1 := R₈.row.length
        have e2 := R₇.row.length
        rw [List.length_append] at e1
        have : (flushV num).length ≤ 1 := by unfold flushV; split <;> simp
        lia
      have M₉ := M₇.num_ R₉
      have done : ∀ G' h' tk m' v, RS s.heap s.heap.objs.size D [(I, oI)] G' h' m' (ys₈ ++ [v]) (rs ++ flushV num ++ [(tokV c, 0)]) → RM m' D (-1) →
          ∃ h'' tk', ({ s with heap := h', toks := tk } : Shared) = { s with heap := h'', toks := tk' } ∧ h''.get? I = some oI ∧ ∃ G m ys rs num, RS s.heap s.heap.objs.size D [] G h'' m ys rs ∧ RM m D num ∧ G.get? I = none ∧ ys.length ≤ 2 * (i + 1) ∧ rs ++ rowF (t.cps.toList.drop (i + 1)) num = rowV t ∧ -1 ≤ num ∧ num < 10 ^ (i + 1) :=
        fun G' h' tk m' v R' M' => ⟨h', tk, rfl, (R'.j _ (.head _)).1, G', m', _, _, -1, R'.drop, M', (R'.j _ (.head _)).2.2.2, (by rw [List.length_append, List.length_singleton]; lia), (by rw [← he]; simp [List.append_assoc]), (by lia), (by have : (0 : Int) < 10 ^ (i + 1) := Int.pow_pos (by lia); lia)⟩
      have alpha : ∀ tk, (64 < c ∧ c < 91) ∨ (96 < c ∧ c < 123) → wpAny (model Challenge.rw_mg0016_01.prog w) (A.deeper (rE s.heap.objs.size))
          (execs [.Expr (.Call (.Attribute (.Name (nn "row") ⟨97, 16, 97, 19⟩) (nn "append") ⟨97, 16, 97, 26⟩) [.Tuple [.BinOp (.Constant (.int 1000) 0 ⟨97, 28, 97, 32⟩) .Add (.BinOp (.Name (nn "code") ⟨97, 35, 97, 39⟩) .Mod (.Constant (.int 32) 0 ⟨97, 42, 97, 44⟩) ⟨97, 35, 97, 44⟩) ⟨97, 28, 97, 44⟩, .Constant (.int 0) 0 ⟨97, 46, 97, 47⟩] 0 ⟨97, 27, 97, 48⟩] [] ⟨97, 16, 97, 49⟩) ⟨97, 16, 97, 49⟩] (rE s.heap.objs.size))
          (fun f s₂ => f = .next ∧ ∃ h'' tk', s₂ = { s with heap := h'', toks := tk' } ∧ h''.get? I = some oI ∧ ∃ G m ys rs num, RS s.heap s.heap.objs.size D [] G h'' m ys rs ∧ RM m D num ∧ G.get? I = none ∧ ys.length ≤ 2 * (i + 1) ∧ rs ++ rowF (t.cps.toList.drop (i + 1)) num = rowV t ∧ -1 ≤ num ∧ num < 10 ^ (i + 1)) (fun _ _ => False) { s with heap := h₉, toks := tk } := by
        intro tk hc
        refine wpAny_execs_cons (rest := []) (app_ (s := { s with heap := h₉, toks := tk }) R₉ M₉.row (by lia) (by kernel_rfl) (x1 := tokV c) (x2 := 0) ?_ fun G' h' tk' v R' => wpAny_execs_nil ⟨rfl, done _ _ _ _ v R' M₉⟩)
        have e : tokV c = 1000 + Int.fmod ((c : Nat) : Int) 32 := by
          unfold tokV
          rw [if_pos hc, Int.fmod_eq_emod_of_nonneg _ (by lia)]
          rfl
        rw [e]
        refine spliced_cons (wpAny_BinOp (wpAny_Constant_int (k := 0) (wpAny_BinOp (rN R₉ (u_ne u_eq) (wpAny_Constant_int (k := 0) (mod_int' (by decide) (P.add_int (spliced_cons (wpAny_Constant_int (k := 0) (pos := ⟨97, 46, 97, 47⟩) (spliced_nil ?_))))))))))
        exact ⟨⟨_, _, rfl⟩, _, rfl⟩
      have other : ∀ tk, ¬ ((64 < c ∧ c < 91) ∨ (96 < c ∧ c < 123)) → wpAny (model Challenge.rw_mg0016_01.prog w) (A.deeper (rE s.heap.objs.size))
          (execs [.Expr (.Call (.Attribute (.Name (nn "row") ⟨99, 16, 99, 19⟩) (nn "append") ⟨99, 16, 99, 26⟩) [.Tuple [.IfExp (.Compare (.Name (nn "code") ⟨99, 36, 99, 40⟩) [.Lt] [.Constant (.int 128) 0 ⟨99, 43, 99, 46⟩] ⟨99, 36, 99, 46⟩) (.Name (nn "code") ⟨99, 28, 99, 32⟩) (.BinOp (.Constant (.int 2000) 0 ⟨99, 52, 99, 56⟩) .Add (.Name (nn "code") ⟨99, 59, 99, 63⟩) ⟨99, 52, 99, 63⟩) ⟨99, 28, 99, 63⟩, .Constant (.int 0) 0 ⟨99, 65, 99, 66⟩] 0 ⟨99, 27, 99, 67⟩] [] ⟨99, 16, 99, 68⟩) ⟨99, 16, 99, 68⟩] (rE s.heap.objs.size))
          (fun f s₂ => f = .next ∧ ∃ h'' tk', s₂ = { s with heap := h'', toks := tk' } ∧ h''.get? I = some oI ∧ ∃ G m ys rs num, RS s.heap s.heap.objs.size D [] G h'' m ys rs ∧ RM m D num ∧ G.get? I = none ∧ ys.length ≤ 2 * (i + 1) ∧ rs ++ rowF (t.cps.toList.drop (i + 1)) num = rowV t ∧ -1 ≤ num ∧ num < 10 ^ (i + 1)) (fun _ _ => False) { s with heap := h₉, toks := tk } := by
        intro tk hc
        refine wpAny_execs_cons (rest := []) (app_ (s := { s with heap := h₉, toks := tk }) R₉ M₉.row (by lia) (by kernel_rfl) (x1 := tokV c) (x2 := 0) ?_ fun G' h' tk' v R' => wpAny_execs_nil ⟨rfl, done _ _ _ _ v R' M₉⟩)
        refine spliced_cons (IfExp_ (pos := ⟨99, 28, 99, 63⟩) (wpAny_isTrue_Compare1 (rN R₉ (u_ne u_eq) (wpAny_Constant_int (k := 0) (P.lt_int (wpAny_truthy_bool ?_))))))
        by_cases h8 : c < 128
        · have e : tokV c = ((c : Nat) : Int) := by unfold tokV; rw [if_neg hc, if_pos h8]
          rw [e, decide_eq_true (show ((c : Nat) : Int) < 128 by lia), if_pos rfl]
          refine rN R₉ (u_ne u_eq) (spliced_cons (wpAny_Constant_int (k := 0) (pos := ⟨99, 65, 99, 66⟩) (spliced_nil ?_)))
          exact ⟨⟨_, _, rfl⟩, _, rfl⟩
        · have e : tokV c = 2000 + ((c : Nat) : Int) := by unfold tokV; rw [if_neg hc, if_neg h8]
          rw [e, decide_eq_false (show ¬ ((c : Nat) : Int) < 128 by lia), if_neg Bool.false_ne_true]
          refine wpAny_BinOp (wpAny_Constant_int (k := 0) (rN R₉ (u_ne u_eq) (P.add_int (spliced_cons (wpAny_Constant_int (k := 0) (pos := ⟨99, 65, 99, 66⟩) (spliced_nil ?_))))))
          exact ⟨⟨_, _, rfl⟩, _, rfl⟩
      refine wpAny_execs_cons (rest := []) (wpAny_If (isTrue_or (btw_ R₉ (u_ne u_eq) fun tkA => ?_)))
      by_cases c1 : 64 < c ∧ c < 91
      · rw [decide_eq_true (show (64 : Int) < (c : Nat) ∧ ((c : Nat) : Int) < 91 by lia), if_pos rfl, if_pos rfl]
        refine wpAny_mono (alpha _ (.inl c1)) (fun f s₂ h₂ => ?_) fun _ _ e => e
        obtain ⟨rfl, h₂⟩ := h₂
        exact wpAny_execs_nil (wpAny_execs_nil (kQ _ _ h₂))
      rw [decide_eq_false (show ¬ ((64 : Int) < (c : Nat) ∧ ((c : Nat) : Int) < 91) by lia), if_neg Bool.false_ne_true]
      refine isTrue_or (btw_ (s := { s with heap := h₉, toks := tkA }) R₉ (u_ne u_eq) fun tkB => ?_)
      by_cases c2 : 96 < c ∧ c < 123
      · rw [decide_eq_true (show (96 : Int) < (c : Nat) ∧ ((c : Nat) : Int) < 123 by lia), if_pos rfl, if_pos rfl]
        refine wpAny_mono (alpha _ (.inr c2)) (fun f s₂ h₂ => ?_) fun _ _ e => e
        obtain ⟨rfl, h₂⟩ := h₂
        exact wpAny_execs_nil (wpAny_execs_nil (kQ _ _ h₂))
      rw [decide_eq_false (show ¬ ((96 : Int) < (c : Nat) ∧ ((c : Nat) : Int) < 123) by lia), if_neg Bool.false_ne_true]
      refine isTrue_or_nil ?_
      rw [if_neg Bool.false_ne_true]
      refine wpAny_mono (other _ (by rintro (h | h); exact c1 h; exact c2 h)) (fun f s₂ h₂ => ?_) fun _ _ e => e
      obtain ⟨rfl, h₂⟩ := h₂
      exact wpAny_execs_nil (wpAny_execs_nil (kQ _ _ h₂))
  · rintro h tk ⟨G, m, ys, rs, num, R, M, gI, hy, he, hb1, hb2⟩
    refine fin _ _ _ _ _ _ _ _ R M ?_ ?_
    · have : t.cps.size = t.length := rfl
      lia
    · rw [List.drop_eq_nil_of_le (by simp)] at he
      exact he
end
end
end Mine
namespace Mine
section
open PySem PySem.W PyProof.Rows
set_option maxRecDepth 100000
set_option maxHeartbeats 0
set_option linter.unusedVariables false
set_option linter.unusedSimpArgs false
/-- c says who stands ahead: a strict weak order -/
structure SW (c : Nat → Nat → Bool) : Prop where
  asym : ∀ i j, c i j = true → c j i = false
  ntr : ∀ i j k, c i j = false → c j k = false → c i k = false
/-- like ones by their places -/
noncomputable def TT (c : Nat → Nat → Bool) (i j : Nat) : Prop := c i j = true ∨ (c j i = false ∧ i < j)
section
variable {c : Nat → Nat → Bool} (W : SW c)
include W
theorem SW.irr (i : Nat) : c i i = false := by
  cases e : c i i with
  | false => rfl
  | true => have := W.asym _ _ e; rw [e] at this; cases this
theorem SW.or {i j : Nat} (k : Nat) (h : c i j = true) : c i k = true ∨ c k j = true := by
  cases e : c i k with
  | true => exact .inl rfl
  | false =>
    cases e2 : c k j with
    | true => exact .inr rfl
    | false => have := W.ntr _ _ _ e e2; rw [h] at this; cases this
theorem TT.no {i j : Nat} (h : TT c i j) : c j i = false := h.elim (W.asym _ _) (·.1)
theorem TT.trans {i j k : Nat} (h1 : TT c i j) (h2 : TT c j k) : TT c i k := by
  rcases h1 with h1 | ⟨h1, l1⟩
  · rcases W.or k h1 with h | h
    · exact .inl h
    · have := TT.no W h2; rw [h] at this; cases this
  · rcases h2 with h2 | ⟨h2, l2⟩
    · rcases W.or i h2 with h | h
      · rw [h1] at h; cases h
      · exact .inl h
    · exact .inr ⟨W.ntr _ _ _ h2 h1, Nat.lt_trans l1 l2⟩
theorem TT.irr {i : Nat} (h : TT c i i) : False := by
  rcases h with h | h
  · rw [SW.irr W i] at h; cases h
  · exact Nat.lt_irrefl _ h.2
omit W in
theorem TT.total {i j : Nat} (h : i ≠ j) : TT c i j ∨ TT c j i := by
  cases e : c i j with
  | true => exact .inl (.inl e)
  | false =>
    cases e2 : c j i with
    | true => exact .inr (.inl e2)
    | false =>
      rcases Nat.lt_or_gt_of_ne h with l | l
      · exact .inl (.inr ⟨e2, l⟩)
      · exact .inr (.inr ⟨e, l⟩)
end
theorem rev_at {p : Array Nat} {i j : Nat} (hj : j ≤ p.size) (k : Nat) : (kas_rev p i j).getD k 0 = if i ≤ k ∧ k < j then p.getD (i + j - 1 - k) 0 else p.getD k 0 := by
  have e := getElem?_mirror_all (xs := p) (i := i) hj k
  unfold kas_rev
  rw [Array.getD_eq_getD_getElem?, e]
  split <;> rw [Array.getD_eq_getD_getElem?]
theorem bub_at {p : Array Nat} {k l : Nat} (hk : k < p.size) (hl : l ≤ k) (x : Nat) : (bubble p k (k - l)).getD x 0 = if x = l then p.getD k 0 else if l < x ∧ x ≤ k then p.getD (x - 1) 0 else p.getD x 0 := by
  have e := getElem?_bubble (xs := p) hk (k - l) (by lia) x
  rw [show k - (k - l) = l by lia] at e
  simp only [Array.getD_eq_getD_getElem?, e]
  by_cases h1 : x = l
  · rw [if_pos h1, if_pos h1]
  · rw [if_neg h1, if_neg h1]
    by_cases h2 : l < x ∧ x ≤ k
    · rw [if_pos h2, if_pos h2]
    · rw [if_neg h2, if_neg h2]
/-- the first m are in order, the others lie where they lay -/
structure Inv (c : Nat → Nat → Bool) (N : Nat) (p : Array Nat) (m : Nat) : Prop where
  size : p.size = N
  bd : ∀ x, x < m → p.getD x 0 < m
  id : ∀ x, m ≤ x → x < N → p.getD x 0 = x
  srt : ∀ a b, a < b → b < m → TT c (p.getD a 0) (p.getD b 0)
/-- the first n run backwards -/
structure Rev (c : Nat → Nat → Bool) (N : Nat) (p : Array Nat) (n : Nat) : Prop where
  size : p.size = N
  bd : ∀ x, x < n → p.getD x 0 < n
  id : ∀ x, n ≤ x → x < N → p.getD x 0 = x
  rev : ∀ a b, a < b → b < n → TT c (p.getD b 0) (p.getD a 0)
/-- the first n run backwards but for the last q + 1, which are alike and lie where they lay -/
structure Blk (c : Nat → Nat → Bool) (N : Nat) (p : Array Nat) (n q : Nat) : Prop where
  size : p.size = N
  bd : ∀ x, x < n → p.getD x 0 < n
  id : ∀ x, n ≤ x + (q + 1) → x < N → p.getD x 0 = x
  qn : q < n
  eqv : ∀ x y, n ≤ x + (q + 1) → x < n → n ≤ y + (q + 1) → y < n → c x y = false
  rev : ∀ a b, a < b → b + (q + 1) < n → TT c (p.getD b 0) (p.getD a 0)
  low : ∀ a b, a + (q + 1) < n → n ≤ b + (q + 1) → b < n → TT c b (p.getD a 0)
section
variable {c : Nat → Nat → Bool} {N : Nat} {p : Array Nat}
theorem Rev.flip (W : SW c) {n : Nat} (R : Rev c N p n) (hn : n ≤ N) : Inv c N (kas_rev p 0 n) n := by
  have hj : n ≤ p.size := by rw [R.size]; exact hn
  refine ⟨by rw [kas_rev_size, R.size], fun x hx => ?_, fun x h1 h2 => ?_, fun a b h1 h2 => ?_⟩
  · rw [rev_at hj, if_pos (by lia)]; exact R.bd _ (by lia)
  · rw [rev_at hj, if_neg (by lia)]; exact R.id _ h1 h2
  · rw [rev_at hj, rev_at hj, if_pos (by lia), if_pos (by lia)]; exact R.rev _ _ (by lia) (by lia)
theorem Blk.flush0 {n : Nat} (B : Blk c N p n 0) (hn : n ≤ N) : Rev c N p n := by
  refine ⟨B.size, B.bd, fun x h1 h2 => B.id x (by lia) h2, fun a b h1 h2 => ?_⟩
  by_cases h : b + 1 < n
  · exact B.rev a b h1 h
  · rw [B.id b (by lia) (by lia)]; exact B.low a b (by lia) (by lia) h2
theorem Blk.flush (W : SW c) {n q : Nat} (B : Blk c N p n q) (hn : n ≤ N) : Rev c N (kas_rev p (n - (q + 1)) n) n := by
  have hj : n ≤ p.size := by rw [B.size]; exact hn
  have hq := B.qn
  refine ⟨by rw [kas_rev_size, B.size], fun x hx => ?_, fun x h1 h2 => ?_, fun a b h1 h2 => ?_⟩
  · rw [rev_at hj]; split <;> exact B.bd _ (by lia)
  · rw [rev_at hj, if_neg (by lia)]; exact B.id _ (by lia) h2
  · rw [rev_at hj, rev_at hj]
    by_cases hb : n - (q + 1) ≤ b
    · rw [if_pos (show n - (q + 1) ≤ b ∧ b < n by lia), B.id (n - (q + 1) + n - 1 - b) (by lia) (by lia)]
      by_cases ha : n - (q + 1) ≤ a
      · rw [if_pos (show n - (q + 1) ≤ a ∧ a < n by lia), B.id (n - (q + 1) + n - 1 - a) (by lia) (by lia)]
        exact .inr ⟨B.eqv _ _ (by lia) (by lia) (by lia) (by lia), by lia⟩
      · rw [if_neg (by lia)]
        exact B.low a _ (by lia) (by lia) (by lia)
    · rw [if_neg (by lia), if_neg (by lia)]
      exact B.rev a b h1 (by lia)
theorem Rev.block (W : SW c) {n : Nat} (R : Rev c N p n) (hn : n < N) (h1 : 1 ≤ n) (h : c (p.getD n 0) (p.getD (n - 1) 0) = true) : Blk c N p (n + 1) 0 := by
  have hid := R.id n (Nat.le_refl _) hn
  refine ⟨R.size, fun x hx => ?_, fun x h1 h2 => R.id x (by lia) h2, by lia, fun x y a1 a2 a3 a4 => ?_, fun a b h1 h2 => R.rev a b h1 (by lia), fun a b h1 h2 h3 => ?_⟩
  · by_cases e : x = n
    · rw [e, hid]; lia
    · have := R.bd x (by lia); lia
  · have e1 : x = n := by lia
    have e2 : y = n := by lia
    rw [e1, e2]; exact W.irr n
  · have e : b = n := by lia
    rw [e]
    rw [hid] at h
    by_cases ea : a = n - 1
    · rw [ea]; exact .inl h
    · exact TT.trans W (.inl h) (R.rev a (n - 1) (by lia) (by lia))
theorem Blk.next (W : SW c) {n q : Nat} (B : Blk c N p n q) (hn : n < N) (h : c (p.getD n 0) (p.getD (n - 1) 0) = true) : Blk c N (if q > 0 then kas_rev p (n - (q + 1)) n else p) (n + 1) 0 := by
  have hid := B.id n (by lia) hn
  have hj : n ≤ p.size := by rw [B.size]; lia
  have hq := B.qn
  rw [hid, B.id (n - 1) (by lia) (by lia)] at h
  split
  · refine (B.flush W (by lia)).block W hn (by lia) ?_
    rw [rev_at hj, rev_at hj, if_neg (by lia), if_pos (by lia), hid, B.id _ (by lia) (by lia)]
    rcases W.or (n - (q + 1) + n - 1 - (n - 1)) h with e | e
    · exact e
    · rw [B.eqv _ _ (by lia) (by lia) (by lia) (by lia)] at e; cases e
  · rename_i hq0
    obtain rfl : q = 0 := by lia
    refine (B.flush0 (by lia)).block W hn (by lia) ?_
    rw [hid, B.id (n - 1) (by lia) (by lia)]; exact h
theorem Blk.more (W : SW c) {n q : Nat} (B : Blk c N p n q) (hn : n < N) (h : c (p.getD n 0) (p.getD (n - 1) 0) = false) (h' : c (p.getD (n - 1) 0) (p.getD n 0) = false) : Blk c N p (n + 1) (q + 1) := by
  have hid := B.id n (by lia) hn
  have hq := B.qn
  rw [hid, B.id (n - 1) (by lia) (by lia)] at h h'
  refine ⟨B.size, fun x hx => ?_, fun x h1 h2 => B.id x (by lia) h2, by lia, fun x y a1 a2 a3 a4 => ?_, fun a b h1 h2 => B.rev a b h1 (by lia), fun a b h1 h2 h3 => ?_⟩
  · by_cases e : x = n
    · rw [e, hid]; lia
    · have := B.bd x (by lia); lia
  · by_cases ex : x = n
    · rw [ex]
      by_cases ey : y = n
      · rw [ey]; exact W.irr n
      · exact W.ntr _ _ _ h (B.eqv (n - 1) y (by lia) (by lia) (by lia) (by lia))
    · by_cases ey : y = n
      · rw [ey]; exact W.ntr _ _ _ (B.eqv x (n - 1) (by lia) (by lia) (by lia) (by lia)) h'
      · exact B.eqv x y (by lia) (by lia) (by lia) (by lia)
  · by_cases e : b = n
    · rw [e]
      have t := B.low a (n - 1) (by lia) (by lia) (by lia)
      rcases t with t | ⟨_, l⟩
      · rcases W.or n t with t | t
        · rw [h'] at t; cases t
        · exact .inl t
      · have := B.bd a (by lia); lia
    · exact B.low a b (by lia) (by lia) (by lia)
theorem Inv.next (W : SW c) {n : Nat} (I : Inv c N p n) (hn : n < N) (h1 : 1 ≤ n) (h : c (p.getD n 0) (p.getD (n - 1) 0) = false) : Inv c N p (n + 1) := by
  have hid := I.id n (Nat.le_refl _) hn
  rw [hid] at h
  refine ⟨I.size, fun x hx => ?_, fun x h1 h2 => I.id x (by lia) h2, fun a b h1 h2 => ?_⟩
  · by_cases e : x = n
    · rw [e, hid]; lia
    · have := I.bd x (by lia); lia
  · by_cases e : b = n
    · rw [e, hid]
      have t : TT c (p.getD (n - 1) 0) n := .inr ⟨h, I.bd _ (by lia)⟩
      by_cases ea : a = n - 1
      · rw [ea]; exact t
      · exact TT.trans W (I.srt a (n - 1) (by lia) (by lia)) t
    · exact I.srt a b h1 (by lia)
end
section
variable {c : Nat → Nat → Bool} {N : Nat} {cmp : Nat → Nat → (Bool → Shared → Prop) → Shared → Prop} {Ok : Shared → Prop} (W : SW c)
  (hc : ∀ i j C s, i < N → j < N → Ok s → (∀ s', Ok s' → C (c i j) s') → cmp i j C s)
include W hc
theorem asc_ : ∀ (f n : Nat) (p : Array Nat) (Q : Nat → Shared → Prop) (s : Shared), Inv c N p n → 1 ≤ n → n + f ≤ N → Ok s →
    (∀ m s', Ok s' → n ≤ m → m ≤ n + f → Inv c N p m → (m = n + f ∨ c (p.getD m 0) (p.getD (m - 1) 0) = true) → Q m s') → (kas_asc p f n).kasWp cmp Q s
  | 0, n, p, Q, s, I, h1, hn, ok, hq => hq n s ok (Nat.le_refl _) (Nat.le_refl _) I (.inl rfl)
  | f + 1, n, p, Q, s, I, h1, hn, ok, hq => by
    have b1 := I.id n (Nat.le_refl _) (by lia)
    have b2 := I.bd (n - 1) (by lia)
    refine hc _ _ _ _ (by lia) (by lia) ok fun s' ok' => ?_
    cases e : c (p.getD n 0) (p.getD (n - 1) 0) with
    | true => exact hq n s' ok' (Nat.le_refl _) (by lia) I (.inr e)
    | false => exact asc_ f (n + 1) p Q s' (I.next W (by lia) h1 e) (by lia) (by lia) ok' fun m s'' o h2 h3 I' h4 => hq m s'' o (by lia) (by lia) I' (h4.imp (by lia) id)
theorem desc_ : ∀ (f n q : Nat) (p : Array Nat) (Q : Array Nat × Nat × Nat → Shared → Prop) (s : Shared), Blk c N p n q → n + f ≤ N → Ok s →
    (∀ p' n' q' s', Ok s' → n' ≤ n + f → Blk c N p' n' q' → Q (p', n', q') s') → (kas_desc f p n q).kasWp cmp Q s
  | 0, n, q, p, Q, s, B, hn, ok, hq => hq p n q s ok (by lia) B
  | f + 1, n, q, p, Q, s, B, hn, ok, hq => by
    have hqn := B.qn
    have b1 := B.id n (by lia) (by lia)
    have b2 := B.bd (n - 1) (by lia)
    refine hc _ _ _ _ (by lia) (by lia) ok fun s' ok' => ?_
    cases e : c (p.getD n 0) (p.getD (n - 1) 0) with
    | true =>
      have B' := B.next W (by lia) e
      dsimp only
      rw [if_pos rfl]
      by_cases h0 : q > 0
      · rw [if_pos h0] at B' ⊢
        exact desc_ f (n + 1) 0 _ Q s' B' (by lia) ok' fun p' n' q' s'' o h2 B'' => hq p' n' q' s'' o (by lia) B''
      · rw [if_neg h0] at B' ⊢
        exact desc_ f (n + 1) 0 _ Q s' B' (by lia) ok' fun p' n' q' s'' o h2 B'' => hq p' n' q' s'' o (by lia) B''
    | false =>
      dsimp only
      rw [if_neg Bool.false_ne_true]
      refine hc _ _ _ _ (by lia) (by lia) ok' fun s2 ok2 => ?_
      cases e2 : c (p.getD (n - 1) 0) (p.getD n 0) with
      | true => exact hq p n q s2 ok2 (by lia) B
      | false =>
        dsimp only
        rw [if_neg Bool.false_ne_true]
        exact desc_ f (n + 1) (q + 1) _ Q s2 (B.more W (by lia) e e2) (by lia) ok2 fun p' n' q' s'' o h2 B'' => hq p' n' q' s'' o (by lia) B''
theorem tail3_ {n : Nat} {p : Array Nat} {Q : Nat × Array Nat → Shared → Prop} {s : Shared} (R : Rev c N p n) (h1 : 1 ≤ n) (hn : n ≤ N) (ok : Ok s) (hq : ∀ m p' s', Ok s' → 1 ≤ m → m ≤ N → Inv c N p' m → Q (m, p') s') : (kas_tail3 n N p).kasWp cmp Q s := by
  unfold kas_tail3
  rw [KasT.kasWp_bind]
  exact asc_ W hc (N - n) n _ _ s (R.flip W hn) h1 (by lia) ok fun m s' ok' h2 h3 I _ => hq m _ s' ok' (by lia) (by lia) I
theorem descPart_ {n : Nat} {p : Array Nat} {Q : Nat × Array Nat → Shared → Prop} {s : Shared} (R : Rev c N p n) (h1 : 1 ≤ n) (hn : n < N) (h : c (p.getD n 0) (p.getD (n - 1) 0) = true) (ok : Ok s)
    (hq : ∀ m p' s', Ok s' → 1 ≤ m → m ≤ N → Inv c N p' m → Q (m, p') s') : (kas_descPart n N p).kasWp cmp Q s := by
  unfold kas_descPart
  rw [KasT.kasWp_bind]
  refine desc_ W hc (N - (n + 1)) (n + 1) 0 p _ s (R.block W hn h1 h) (by lia) ok fun p' n' q' s' ok' h2 B => ?_
  dsimp only
  have hqn := B.qn
  split
  · exact tail3_ W hc (B.flush W (by lia)) (by lia) (by lia) ok' hq
  · obtain rfl : q' = 0 := by lia
    exact tail3_ W hc (B.flush0 (by lia)) (by lia) (by lia) ok' hq
theorem count_ {p : Array Nat} {Q : Nat × Array Nat → Shared → Prop} {s : Shared} (hN : 1 ≤ N) (hz : p.size = N) (hid : ∀ x, x < N → p.getD x 0 = x) (ok : Ok s) (hq : ∀ m p' s', Ok s' → 1 ≤ m → m ≤ N → Inv c N p' m → Q (m, p') s') : (kas_count N p).kasWp cmp Q s := by
  unfold kas_count
  rw [KasT.kasWp_bind]
  refine asc_ W hc (N - 1) 1 p _ s ⟨hz, fun x hx => by rw [hid x (by lia)]; exact hx, fun x _ h => hid x h, fun a b h1 h2 => by lia⟩ (Nat.le_refl _) (by lia) ok fun n s' ok' h1 h2 I h3 => ?_
  by_cases e : n = N
  · rw [if_pos (by simp [e])]; exact hq n p s' ok' h1 (by lia) I
  rw [if_neg (by simp [e])]
  have h3' := h3.resolve_left (by lia)
  have hj : n ≤ p.size := by lia
  by_cases g : n > 1
  · rw [if_pos g]
    refine hc _ _ _ _ (by rw [hid 0 (by lia)]; lia) (by rw [hid (n - 1) (by lia)]; lia) ok' fun s2 ok2 => ?_
    cases e2 : c (p.getD 0 0) (p.getD (n - 1) 0) with
    | true => exact hq n p s2 ok2 h1 (by lia) I
    | false =>
      dsimp only
      rw [if_neg Bool.false_ne_true]
      rw [hid 0 (by lia), hid (n - 1) (by lia)] at e2
      have lo : ∀ a b, a < b → b < n → c b a = false := fun a b h1 h2 => by have := TT.no W (I.srt a b h1 h2); rwa [hid a (by lia), hid b (by lia)] at this
      have up : ∀ a, a < n → c a 0 = false := fun a ha => by
        by_cases ea : a = 0
        · rw [ea]; exact W.irr 0
        · exact lo 0 a (by lia) ha
      have dn : ∀ a, a < n → c (n - 1) a = false := fun a ha => by
        by_cases ea : a = n - 1
        · rw [ea]; exact W.irr _
        · exact lo a (n - 1) (by lia) (by lia)
      have al : ∀ a b, a < n → b < n → c a b = false := fun a b ha hb => W.ntr _ _ _ (W.ntr _ _ _ (up a ha) e2) (dn b hb)
      refine descPart_ W hc ⟨by rw [kas_rev_size, hz], fun x hx => ?_, fun x h1 h2 => ?_, fun a b h1 h2 => ?_⟩ h1 (by lia) ?_ ok2 hq
      · rw [rev_at hj, if_pos (by lia), hid _ (by lia)]; lia
      · rw [rev_at hj, if_neg (by lia), hid _ (by lia)]
      · rw [rev_at hj, rev_at hj, if_pos (by lia), if_pos (by lia), hid _ (by lia), hid _ (by lia)]
        exact .inr ⟨al _ _ (by lia) (by lia), by lia⟩
      · rw [rev_at hj, rev_at hj, if_neg (by lia), if_pos (by lia), hid _ (by lia), hid _ (by lia)]
        rw [hid _ (by lia), hid _ (by lia)] at h3'
        rcases W.or (0 + n - 1 - (n - 1)) h3' with e | e
        · exact e
        · rw [al _ _ (by lia) (by lia)] at e; cases e
  · rw [if_neg g]
    obtain rfl : n = 1 := by lia
    exact descPart_ W hc ⟨hz, I.bd, I.id, fun a b h1 h2 => by lia⟩ (by lia) (by lia) h3' ok' hq
theorem place_ {k : Nat} {p : Array Nat} (I : Inv c N p k) (hk : k < N) : ∀ (f l r : Nat) (Q : Nat → Shared → Prop) (s : Shared), l ≤ r → r ≤ k → r ≤ l + f → Ok s → (∀ x, x < l → c k (p.getD x 0) = false) → (∀ x, r ≤ x → x < k → c k (p.getD x 0) = true) →
    (∀ l' s', Ok s' → l' ≤ k → (∀ x, x < l' → c k (p.getD x 0) = false) → (∀ x, l' ≤ x → x < k → c k (p.getD x 0) = true) → Q l' s') → (kas_place p k f l r).kasWp cmp Q s
  | 0, l, r, Q, s, h1, h2, h3, ok, lo, hi, hq => hq l s ok (by lia) lo fun x a b => hi x (by lia) b
  | f + 1, l, r, Q, s, h1, h2, h3, ok, lo, hi, hq => by
    unfold kas_place
    by_cases g : l ≥ r
    · rw [if_pos g]; exact hq l s ok (by lia) lo fun x a b => hi x (by lia) b
    rw [if_neg g]
    have hid := I.id k (Nat.le_refl _) hk
    have b2 := I.bd ((l + r) / 2) (by lia)
    refine hc _ _ _ _ (by lia) (by lia) ok fun s' ok' => ?_
    rw [hid]
    cases e : c k (p.getD ((l + r) / 2) 0) with
    | true =>
      dsimp only
      rw [if_pos rfl]
      refine place_ I hk f l ((l + r) / 2) Q s' (by lia) (by lia) (by lia) ok' lo (fun x a b => ?_) hq
      by_cases ex : x = (l + r) / 2
      · rw [ex]; exact e
      · rcases W.or (p.getD x 0) e with z | z
        · exact z
        · have := TT.no W (I.srt ((l + r) / 2) x (by lia) b); rw [z] at this; cases this
    | false =>
      dsimp only
      rw [if_neg Bool.false_ne_true]
      refine place_ I hk f ((l + r) / 2 + 1) r Q s' (by lia) (by lia) (by lia) ok' (fun x a => ?_) hi hq
      by_cases ex : x = (l + r) / 2
      · rw [ex]; exact e
      · exact W.ntr _ _ _ e (TT.no W (I.srt x ((l + r) / 2) (by lia) (by lia)))
theorem bin_ : ∀ (f k : Nat) (p : Array Nat) (Q : Array Nat → Shared → Prop) (s : Shared), Inv c N p k → k + f = N → Ok s → (∀ p' s', Ok s' → Inv c N p' N → Q p' s') → (kas_bin f p k).kasWp cmp Q s
  | 0, k, p, Q, s, I, h, ok, hq => by
    obtain rfl : k = N := by lia
    exact hq p s ok I
  | f + 1, k, p, Q, s, I, h, ok, hq => by
    unfold kas_bin
    rw [KasT.kasWp_bind]
    refine place_ W hc I (by lia) k 0 k _ s (by lia) (by lia) (by lia) ok (fun x h => by lia) (fun x h1 h2 => by lia) fun l s' ok' hl lo hi => ?_
    refine bin_ f (k + 1) _ Q s' ?_ (by lia) ok' hq
    have hk : k < p.size := by rw [I.size]; lia
    have hid := I.id k (Nat.le_refl _) (by lia)
    refine ⟨by rw [bubble_size, I.size], fun x hx => ?_, fun x h1 h2 => ?_, fun a b h1 h2 => ?_⟩
    · rw [bub_at hk hl]
      by_cases e1 : x = l
      · rw [if_pos e1, hid]; lia
      · rw [if_neg e1]
        by_cases e2 : l < x ∧ x ≤ k
        · rw [if_pos e2]; have := I.bd (x - 1) (by lia); lia
        · rw [if_neg e2]; have := I.bd x (by lia); lia
    · rw [bub_at hk hl, if_neg (by lia), if_neg (by lia)]; exact I.id x (by lia) h2
    · rw [bub_at hk hl, bub_at hk hl, hid]
      by_cases ea : a = l
      · rw [if_pos ea, if_neg (by lia), if_pos (by lia)]; exact .inl (hi _ (by lia) (by lia))
      · rw [if_neg ea]
        by_cases eb : b = l
        · rw [if_pos eb, if_neg (by lia)]
          exact .inr ⟨lo a (by lia), I.bd a (by lia)⟩
        · rw [if_neg eb]
          by_cases e1 : l < a ∧ a ≤ k
          · rw [if_pos e1, if_pos (by lia)]; exact I.srt _ _ (by lia) (by lia)
          · rw [if_neg e1]
            by_cases e2 : l < b ∧ b ≤ k
            · rw [if_pos e2]; exact I.srt _ _ (by lia) (by lia)
            · rw [if_neg e2]; exact I.srt _ _ (by lia) (by lia)
/-- the sort puts in order, like ones by their places -/
theorem sort_ {Q : Array Nat → Shared → Prop} {s : Shared} (hN : 1 ≤ N) (ok : Ok s) (hq : ∀ p s', Ok s' → Inv c N p N → Q p s') : (kas_sort N).kasWp cmp Q s := by
  unfold kas_sort
  rw [KasT.kasWp_bind]
  refine count_ W hc hN (by simp) (fun x hx => by simp [hx]) ok fun m p s' ok' h1 h2 I => ?_
  dsimp only
  split
  · rw [Nat.max_eq_left h1]
    exact bin_ W hc (N - m) m p Q s' I (by lia) ok' hq
  · obtain rfl : m = N := by lia
    exact hq p s' ok' I
end
end
end Mine
namespace Mine
section
open PySem PySem.W PySem.W.X PyProof.Rows PySem.Spec PySem.Calls
set_option maxRecDepth 100000
set_option maxHeartbeats 0
set_option linter.unusedVariables false
set_option linter.unusedSimpArgs false
noncomputable def ci (x y : Int) : Ordering := if x < y then .lt else if x = y then .eq else .gt
theorem ci_lt {x y : Int} (h : x < y) : ci x y = .lt := if_pos h
theorem ci_eq (x : Int) : ci x x = .eq := by unfold ci; rw [if_neg (Int.lt_irrefl x), if_pos rfl]
theorem ci_gt {x y : Int} (h : y < x) : ci x y = .gt := by unfold ci; rw [if_neg (by lia), if_neg (by lia)]
theorem ci_sub (x y : Int) : ci (x - y) 0 = ci x y := by
  rcases Int.lt_trichotomy x y with h | h | h
  · rw [ci_lt h, ci_lt (by lia)]
  · rw [h, ci_eq, show y - y = 0 by lia, ci_eq]
  · rw [ci_gt h, ci_gt (by lia)]
noncomputable def cmpP (a b : Int × Int) : Ordering := (ci a.1 b.1).then (ci a.2 b.2)
noncomputable def cmpR : List (Int × Int) → List (Int × Int) → Ordering
  | [], [] => .eq
  | [], _ :: _ => .lt
  | _ :: _, [] => .gt
  | x :: xs, y :: ys => (cmpP x y).then (cmpR xs ys)
theorem then_ne {a b : Ordering} (h : a ≠ .eq) : a.then b = a := by cases a <;> first | rfl | exact absurd rfl h
/-- what a run of figures is worth -/
noncomputable def dv : List Nat → Int → Int
  | [], n => n
  | c :: r, n => dv r (n * 10 + c - 48)
noncomputable def digs (l : List Nat) : Prop := ∀ c ∈ l, isd c = true
noncomputable def bare (l : List Nat) : List Nat := l.dropWhile fun c => c == 48
theorem isd_iff (c : Nat) : isd c = true ↔ 48 ≤ c ∧ c ≤ 57 := by unfold isd; simp
theorem dv_pow : ∀ (l : List Nat) (n : Int), dv l n = n * 10 ^ l.length + dv l 0
  | [], n => by simp [dv]
  | c :: r, n => by
    show dv r (n * 10 + c - 48) = _ + dv r (0 * 10 + c - 48)
    rw [dv_pow r, dv_pow r (0 * 10 + c - 48), List.length_cons, Int.pow_succ]
    have e : (n * 10 + (c : Int) - 48) = n * 10 + (0 * 10 + (c : Int) - 48) := by lia
    rw [e, Int.add_mul, Int.mul_assoc n 10, Int.mul_comm 10 (10 ^ r.length), Int.add_assoc]
theorem dv_cons (c : Nat) (r : List Nat) : dv (c :: r) 0 = ((c : Int) - 48) * 10 ^ r.length + dv r 0 := by
  show dv r (0 * 10 + c - 48) = _
  rw [dv_pow, show (0 * 10 + (c : Int) - 48) = (c : Int) - 48 by lia]
theorem pow_pos10 (n : Nat) : (0 : Int) < 10 ^ n := Int.pow_pos (by lia)
theorem dv_bd : ∀ (l : List Nat), digs l → 0 ≤ dv l 0 ∧ dv l 0 < 10 ^ l.length
  | [], _ => by simp [dv]
  | c :: r, h => by
    have ih := dv_bd r fun x hx => h x (.tail _ hx)
    have hc := (isd_iff c).mp (h c (.head _))
    have hp := pow_pos10 r.length
    rw [dv_cons, List.length_cons, Int.pow_succ]
    have h1 : 0 ≤ ((c : Int) - 48) * 10 ^ r.length := Int.mul_nonneg (by lia) (by lia)
    have h2 : ((c : Int) - 48) * 10 ^ r.length ≤ 9 * 10 ^ r.length := Int.mul_le_mul_of_nonneg_right (by lia) (by lia)
    lia
theorem dv_bare : ∀ (l : List Nat), dv (bare l) 0 = dv l 0
  | [] => rfl
  | c :: r => by
    unfold bare
    rw [List.dropWhile_cons]
    split
    · rename_i h
      have hc : c = 48 := beq_iff_eq.mp h
      rw [show dv (c :: r) 0 = dv r (0 * 10 + c - 48) from rfl, hc, show ((0 : Int) * 10 + (48 : Nat) - 48) = 0 by lia]
      exact dv_bare r
    · rfl
theorem bare_digs {l : List Nat} (h : digs l) : digs (bare l) := fun c hc => h c ((List.dropWhile_sublist _).mem hc)
theorem bare_lead : ∀ {l : List Nat}, digs l → 0 < (bare l).length → 10 ^ ((bare l).length - 1) ≤ dv (bare l) 0
  | [], h, h0 => by simp [bare] at h0
  | c :: r, h, h0 => by
    have e : bare (c :: r) = if (c == 48) = true then bare r else c :: r := by unfold bare; rw [List.dropWhile_cons]
    by_cases hz : (c == 48) = true
    · rw [if_pos hz] at e
      rw [e] at h0 ⊢
      exact bare_lead (fun x hx => h x (.tail _ hx)) h0
    · rw [if_neg hz] at e
      rw [e, dv_cons, List.length_cons]
      have hc := (isd_iff c).mp (h c (.head _))
      have hn : c ≠ 48 := fun q => hz (by rw [q]; rfl)
      have ih := dv_bd r fun x hx => h x (.tail _ hx)
      have hp := pow_pos10 r.length
      have h1 : 1 * 10 ^ r.length ≤ ((c : Int) - 48) * 10 ^ r.length := Int.mul_le_mul_of_nonneg_right (by lia) (by lia)
      simp only [Nat.add_sub_cancel]
      lia
theorem dv_len {x y : List Nat} (hx : digs x) (hy : digs y) (h : (bare x).length < (bare y).length) : dv x 0 < dv y 0 := by
  rw [← dv_bare x, ← dv_bare y]
  have h1 := (dv_bd _ (bare_digs hx)).2
  have h2 := bare_lead hy (by lia)
  have h3 : (10 : Int) ^ (bare x).length ≤ 10 ^ ((bare y).length - 1) := by
    have e : (bare y).length - 1 = (bare x).length + ((bare y).length - 1 - (bare x).length) := by lia
    rw [e, Int.pow_add]
    have p1 := pow_pos10 (bare x).length
    have p2 := pow_pos10 ((bare y).length - 1 - (bare x).length)
    have := Int.mul_le_mul_of_nonneg_left (show (1 : Int) ≤ 10 ^ ((bare y).length - 1 - (bare x).length) by lia) (show (0 : Int) ≤ 10 ^ (bare x).length by lia)
    lia
  lia
theorem dv_lex : ∀ (x y : List Nat), digs x → digs y → x.length = y.length → x < y → dv x 0 < dv y 0
  | [], [], _, _, _, h => absurd h (List.lt_irrefl _)
  | a :: x, b :: y, hx, hy, hl, h => by
    have hl' : x.length = y.length := by simpa using hl
    have ihx := dv_bd x fun z hz => hx z (.tail _ hz)
    have ihy := dv_bd y fun z hz => hy z (.tail _ hz)
    rw [dv_cons, dv_cons, hl']
    have hp := pow_pos10 y.length
    rcases List.cons_lt_cons_iff.mp h with h2 | ⟨h1, h2⟩
    · rw [hl'] at ihx
      have h1 : ((a : Int) - 48 + 1) * 10 ^ y.length ≤ ((b : Int) - 48) * 10 ^ y.length := Int.mul_le_mul_of_nonneg_right (by lia) (by lia)
      rw [Int.add_mul] at h1
      lia
    · have := dv_lex x y (fun z hz => hx z (.tail _ hz)) (fun z hz => hy z (.tail _ hz)) hl' h2
      rw [h1]
      lia
theorem run_digs : ∀ (l : List Nat), digs (l.take (runLen l))
  | [] => by intro c hc; simp at hc
  | c :: r => by
    rw [runLen]
    split
    · rename_i h
      rw [List.take_succ_cons]
      intro x hx
      rcases List.mem_cons.mp hx with rfl | hx
      · exact h
      · exact run_digs r x hx
    · intro x hx; simp at hx
theorem rowF_num : ∀ (l : List Nat) (num : Int), 0 ≤ num → rowF l num = (50, dv (l.take (runLen l)) num) :: rowF (l.drop (runLen l)) (-1)
  | [], num, h => by
    show flushV num = (50, num) :: flushV (-1)
    unfold flushV; rw [if_pos h, if_neg (by lia)]
  | c :: r, num, h => by
    rw [runLen]
    cases q : isd c with
    | true =>
      have hc := (isd_iff c).mp q
      rw [if_pos rfl, List.take_succ_cons, List.drop_succ_cons, rowF, if_pos (by lia), Int.max_eq_left h, rowF_num r _ (by lia)]
      rfl
    | false =>
      have hc : ¬ (47 < c ∧ c < 58) := fun z => by rw [(isd_iff c).mpr (by lia)] at q; cases q
      rw [if_neg Bool.false_ne_true, List.take_zero, List.drop_zero, rowF, if_neg hc, rowF, if_neg hc]
      unfold flushV
      rw [if_pos h, if_neg (by lia)]
      rfl
theorem rowF_dig {c : Nat} (r : List Nat) (q : isd c = true) : rowF (c :: r) (-1) = (50, dv ((c :: r).take (runLen (c :: r))) 0) :: rowF ((c :: r).drop (runLen (c :: r))) (-1) := by
  have hc := (isd_iff c).mp q
  rw [← rowF_num (c :: r) 0 (by lia), rowF, if_pos (by lia), rowF, if_pos (by lia)]
  rfl
theorem rowF_sign {c : Nat} (r : List Nat) (q : isd c = false) : rowF (c :: r) (-1) = (tokV c, 0) :: rowF r (-1) := by
  have hc : ¬ (47 < c ∧ c < 58) := fun z => by rw [(isd_iff c).mpr (by lia)] at q; cases q
  rw [rowF, if_neg hc]
  unfold flushV
  rw [if_neg (by lia)]
  rfl
theorem rank_dig {c : Nat} (q : isd c = true) : rankV ⟨#[c]⟩ = 50 := by
  unfold rankV; rw [dig_one, q, if_pos rfl]
theorem rank_sign {c : Nat} (q : isd c = false) : rankV ⟨#[c]⟩ = tokV c := by
  unfold rankV tokV
  rw [dig_one, q, if_neg Bool.false_ne_true]
  have e : (upp ⟨#[c]⟩ || low ⟨#[c]⟩) = true ↔ ((64 < c ∧ c < 91) ∨ (96 < c ∧ c < 123)) := by
    show ((decide (65 ≤ c) && decide (c ≤ 90)) || (decide (97 ≤ c) && decide (c ≤ 122))) = true ↔ _
    simp only [Bool.or_eq_true, Bool.and_eq_true, decide_eq_true_eq]
    lia
  by_cases h : (64 < c ∧ c < 91) ∨ (96 < c ∧ c < 123)
  · rw [if_pos (e.mpr h), if_pos h]; rfl
  · rw [if_neg (fun z => h (e.mp z)), if_neg h]
    show (if decide (c > 127) = true then 2000 + ((c : Nat) : Int) else ((c : Nat) : Int)) = _
    by_cases h8 : c < 128
    · rw [if_neg (by simpa using (by lia : c ≤ 127)), if_pos h8]
    · rw [if_pos (by simpa using (by lia : 127 < c)), if_neg h8]
theorem tok_ne {c : Nat} (q : isd c = false) : tokV c ≠ 50 := by
  unfold tokV
  have hc : ¬ (48 ≤ c ∧ c ≤ 57) := fun z => by rw [(isd_iff c).mpr z] at q; cases q
  repeat' split
  all_goals lia
theorem cutV_list {t : Str} {k : Nat} (hk : k ≤ t.length) : (cutV t k).cps.toList = bare ((t.cps.toList.drop k).take (runLen (t.cps.toList.drop k))) := by
  have he := endV_le hk
  have e1 : k ≤ endV t k := Nat.le_add_right _ _
  have hs : Txt.slice t (some (k : Int)) (some ((endV t k : Nat) : Int)) = ⟨((t.cps.toList.drop k).take (runLen (t.cps.toList.drop k))).toArray⟩ := by
    have := slice_closes (x := t) (i := (k : Int)) (j := ((endV t k : Nat) : Int)) ⟨by lia, by lia, by
      rw [Array.length_toList]; have : t.cps.size = t.length := rfl; lia⟩
    have := beq_iff_eq.mp this
    rw [this]
    congr 3
    · unfold endV; lia
  unfold cutV
  rw [hs]
  generalize (t.cps.toList.drop k).take (runLen (t.cps.toList.drop k)) = l
  show (Txt.stripBy (nn "0").cps.contains true false ⟨l.toArray⟩).cps.toList = _
  rw [PyProof.Rows.stripBy_eq]
  have eg : (nn "0").cps.contains = fun c => c == 48 := by
    funext c
    show (#[48] : Array Nat).contains c = _
    simp [Bool.beq_comm]
    by_cases h : c = 48 <;> simp [h]
  rw [eg]
  show (l.toArray.extract (l.toArray.toList.takeWhile fun c => c == 48).length l.toArray.size).toList = bare l
  rw [Array.toList_extract]
  simp only [List.extract_eq_take_drop, List.size_toArray]
  unfold bare
  rw [List.take_of_length_le (by simp)]
  have := List.takeWhile_append_dropWhile (p := fun c : Nat => c == 48) (l := l)
  have e2 : ∀ u v : List Nat, u ++ v = l → List.drop u.length l = v := fun u v q => by rw [← q]; simp
  exact e2 _ _ this
theorem row_nonempty {c : Nat} {r : List Nat} : ∃ p q, rowF (c :: r) (-1) = p :: q := by
  cases q : isd c with
  | true => exact ⟨_, _, rowF_dig r q⟩
  | false => exact ⟨_, _, rowF_sign r q⟩
theorem lt_of_not {x y : List Nat} : x.length = y.length → x ≠ y → ¬ x < y → y < x := by
  induction x generalizing y with
  | nil => intro hl hn; cases y with
    | nil => exact absurd rfl hn
    | cons b y => simp at hl
  | cons a x ih =>
    intro hl hn h
    cases y with
    | nil => simp at hl
    | cons b y =>
      rw [List.cons_lt_cons_iff] at h ⊢
      rcases Nat.lt_trichotomy a b with l | rfl | l
      · exact absurd (.inl l) h
      · refine .inr ⟨rfl, ih (by simpa using hl) (fun q => hn (by rw [q])) fun q => h (.inr ⟨rfl, q⟩)⟩
      · exact .inl l
theorem row_head (c : Nat) (r : List Nat) : ∃ v tl, rowF (c :: r) (-1) = (rankV ⟨#[c]⟩, v) :: tl := by
  cases q : isd c with
  | true => exact ⟨_, _, by rw [rank_dig q]; exact rowF_dig r q⟩
  | false => exact ⟨_, _, by rw [rank_sign q]; exact rowF_sign r q⟩
theorem drop_end (t : Str) (i : Nat) : (t.cps.toList.drop i).drop (runLen (t.cps.toList.drop i)) = t.cps.toList.drop (endV t i) := by
  rw [List.drop_drop]; rfl
theorem ord_row (a b : Str) : ∀ (n i j : Nat), a.length < n + i → i ≤ a.length → j ≤ b.length → ci (ordF a b n i j) 0 = cmpR (rowF (a.cps.toList.drop i) (-1)) (rowF (b.cps.toList.drop j) (-1))
  | 0, i, j, h, hi, hj => by lia
  | n + 1, i, j, h, hi, hj => by
    have za : a.cps.toList.length = a.length := Array.length_toList
    have zb : b.cps.toList.length = b.length := Array.length_toList
    by_cases hb : i < a.length ∧ j < b.length
    · have da := drop_at hb.1
      have db := drop_at hb.2
      rw [ordF, if_pos hb]
      by_cases hr : rankV ⟨#[a.cps.getD i 0]⟩ - rankV ⟨#[b.cps.getD j 0]⟩ = 0
      case neg =>
        rw [if_pos hr, ci_sub, da, db]
        obtain ⟨v, tl, e1⟩ := row_head (a.cps.getD i 0) (a.cps.toList.drop (i + 1))
        obtain ⟨v', tl', e2⟩ := row_head (b.cps.getD j 0) (b.cps.toList.drop (j + 1))
        rw [e1, e2]
        have hne : ci (rankV ⟨#[a.cps.getD i 0]⟩) (rankV ⟨#[b.cps.getD j 0]⟩) ≠ .eq := by
          rcases Int.lt_trichotomy (rankV ⟨#[a.cps.getD i 0]⟩) (rankV ⟨#[b.cps.getD j 0]⟩) with l | l | l
          · rw [ci_lt l]; decide
          · lia
          · rw [ci_gt l]; decide
        show _ = (cmpP _ _).then _
        have e : cmpP (rankV ⟨#[a.cps.getD i 0]⟩, v) (rankV ⟨#[b.cps.getD j 0]⟩, v') = ci (rankV ⟨#[a.cps.getD i 0]⟩) (rankV ⟨#[b.cps.getD j 0]⟩) := then_ne hne
        rw [e, then_ne hne]
      rw [if_neg (fun q => q hr)]
      cases qa : isd (a.cps.getD i 0) with
      | false =>
        have qb : isd (b.cps.getD j 0) = false := by
          cases qb : isd (b.cps.getD j 0) with
          | false => rfl
          | true => rw [rank_sign qa, rank_dig qb] at hr; exact absurd (by lia) (tok_ne qa)
        rw [rank_sign qa, rank_sign qb] at hr
        rw [if_neg Bool.false_ne_true, ord_row a b n (i + 1) (j + 1) (by lia) (by lia) (by lia), da, db, rowF_sign _ qa, rowF_sign _ qb]
        show _ = (cmpP _ _).then _
        have e : cmpP (tokV (a.cps.getD i 0), 0) (tokV (b.cps.getD j 0), 0) = .eq := by
          rw [show tokV (a.cps.getD i 0) = tokV (b.cps.getD j 0) by lia]
          unfold cmpP; rw [ci_eq, ci_eq]; rfl
        rw [e]; rfl
      | true =>
        have qb : isd (b.cps.getD j 0) = true := by
          cases qb : isd (b.cps.getD j 0) with
          | true => rfl
          | false => rw [rank_dig qa, rank_sign qb] at hr; exact absurd (by lia) (tok_ne qb)
        rw [if_pos rfl]
        have ca := cutV_list hi
        have cb := cutV_list hj
        have ea := drop_end a i
        have eb := drop_end b j
        have ga := run_digs (a.cps.toList.drop i)
        have gb := run_digs (b.cps.toList.drop j)
        have ra : rowF (a.cps.toList.drop i) (-1) = (50, dv ((a.cps.toList.drop i).take (runLen (a.cps.toList.drop i))) 0) :: rowF (a.cps.toList.drop (endV a i)) (-1) := by
          rw [← ea, da]; exact rowF_dig _ qa
        have rb : rowF (b.cps.toList.drop j) (-1) = (50, dv ((b.cps.toList.drop j).take (runLen (b.cps.toList.drop j))) 0) :: rowF (b.cps.toList.drop (endV b j)) (-1) := by
          rw [← eb, db]; exact rowF_dig _ qb
        rw [ra, rb]
        generalize (a.cps.toList.drop i).take (runLen (a.cps.toList.drop i)) = x at *
        generalize (b.cps.toList.drop j).take (runLen (b.cps.toList.drop j)) = y at *
        have la : (cutV a i).length = (bare x).length := by rw [← ca, Array.length_toList]; rfl
        have lb : (cutV b j).length = (bare y).length := by rw [← cb, Array.length_toList]; rfl
        show _ = ((ci 50 50).then (ci (dv x 0) (dv y 0))).then _
        rw [ci_eq]
        show _ = (ci (dv x 0) (dv y 0)).then _
        rw [la, lb, ca, cb]
        by_cases hln : ((bare x).length : Int) = ((bare y).length : Int)
        case neg =>
          rw [if_pos hln, ci_sub]
          rcases Nat.lt_or_gt_of_ne (fun q => hln (by rw [q]) : (bare x).length ≠ (bare y).length) with l | l
          · rw [ci_lt (by lia), ci_lt (dv_len ga gb l)]; rfl
          · rw [ci_gt (by lia), ci_gt (dv_len gb ga l)]; rfl
        rw [if_neg (fun q => q hln)]
        have hlen : (bare x).length = (bare y).length := by lia
        by_cases hne : bare x = bare y
        case neg =>
          rw [if_pos hne]
          by_cases hlt : bare x < bare y
          · have := dv_lex _ _ (bare_digs ga) (bare_digs gb) hlen hlt
            rw [dv_bare, dv_bare] at this
            rw [if_pos hlt, ci_lt (by lia), ci_lt this]; rfl
          · have := dv_lex _ _ (bare_digs gb) (bare_digs ga) hlen.symm (lt_of_not hlen hne hlt)
            rw [dv_bare, dv_bare] at this
            rw [if_neg hlt, ci_gt (by lia), ci_gt this]; rfl
        rw [if_neg (fun q => q hne)]
        have ev : dv x 0 = dv y 0 := by rw [← dv_bare x, ← dv_bare y, hne]
        have g1 := endV_gt hb.1 qa
        rw [ev, ci_eq, ord_row a b n (endV a i) (endV b j) (by lia) (endV_le hi) (endV_le hj)]
        rfl
    · rw [ordF_out hb]
      by_cases e1 : i < a.length
      · have e2 : j = b.length := by lia
        rw [drop_at e1, List.drop_eq_nil_of_le (by lia : b.cps.toList.length ≤ j)]
        obtain ⟨p, q, e⟩ := row_nonempty (c := a.cps.getD i 0) (r := a.cps.toList.drop (i + 1))
        rw [e, ci_gt (by lia)]; rfl
      · rw [List.drop_eq_nil_of_le (by lia : a.cps.toList.length ≤ i)]
        by_cases e2 : j < b.length
        · rw [drop_at e2]
          obtain ⟨p, q, e⟩ := row_nonempty (c := b.cps.getD j 0) (r := b.cps.toList.drop (j + 1))
          rw [e, ci_lt (by lia)]; rfl
        · rw [List.drop_eq_nil_of_le (by lia : b.cps.toList.length ≤ j), show ((a.length : Int) - i - b.length + j) = 0 by lia, ci_eq]; rfl
theorem ord_rows (a b : Str) : ci (ordV a b) 0 = cmpR (rowV a) (rowV b) := ord_row a b (a.length + 1) 0 0 (by lia) (Nat.zero_le _) (Nat.zero_le _)
end
end Mine
namespace Mine
section
open PySem PySem.W PySem.W.X PyProof.Rows PySem.Spec PySem.Calls
set_option maxRecDepth 100000
set_option maxHeartbeats 0
set_option linter.unusedVariables false
set_option linter.unusedSimpArgs false
noncomputable abbrev lscope : Scope := fdScope (gSt 16)
/-- the cells of the frame of law -/
noncomputable def lcells (L : Nat) : List (Str × Addr) := [(nn "names", L + 5), (nn "key", L + 4), (nn "due", L + 3), (nn "rows", L + 2), (nn "numbers", L + 1)]
/-- the frame of law -/
noncomputable def lE (L : Nat) : Env := { scope := lscope, locals := L, globals := 3, cells := lcells L, qual := nn "law" ++ ".<locals>.", func := some 110, code := .ref 109, frame := some L, builtins := 0 }
/-- the state of law: the frame L, its cells c, the code tables, and G, what stands -/
structure LF (w : World) (h₀ G : Heap) (L : Nat) (h : Heap) (m : Str → Option Value) (c : Nat → Option Value) (p16 p107 : Array Value) : Prop where
  ns : h.Ns L m
  gh : Kp G h
  gL : G.get? L = none
  cl : ∀ i, i < 5 → h.IsCell (L + 1 + i) (c i)
  gc : ∀ i, i < 5 → G.get? (L + 1 + i) = none
  t16 : h.get? 16 = some (tableObj p16)
  t107 : h.get? 107 = some (tableObj p107)
  g16 : G.get? 16 = none
  g107 : G.get? 107 = none
  og : ∀ b o, b ≠ 16 → b ≠ 107 → h₀.get? b = some o → G.get? b = some o
  X : Bs w G
  m4 : ∃ sl4, G.get? 4 = some ⟨.type "module", some 0, .plain, sl4⟩
  bl : 111 ≤ L
theorem cell_kp {h h' : Heap} {a : Addr} {v : Option Value} (x : h.IsCell a v) (k : Kp h h') : h'.IsCell a v := by
  obtain ⟨o, e, d⟩ := x; exact ⟨o, k _ _ e, d⟩
section
variable {w : World} {h₀ G : Heap} {L : Nat} {h h' : Heap} {m : Str → Option Value} {c : Nat → Option Value} {p16 p107 : Array Value}
theorem LF.kp (F : LF w h₀ G L h m c p16 p107) (k : Kp h h') : LF w h₀ G L h' m c p16 p107 :=
  ⟨F.ns.keeps k, Kp.trans F.gh k, F.gL, fun i hi => cell_kp (F.cl i hi) k, F.gc, k _ _ F.t16, k _ _ F.t107, F.g16, F.g107, F.og, F.X, F.m4, F.bl⟩
/-- more stands -/
theorem LF.grow {G' : Heap} (F : LF w h₀ G L h m c p16 p107) (k : Kp h h') (k1 : Kp G G') (k2 : Kp G' h') (hn : ∀ b o, h.get? b = some o → G.get? b = none → G'.get? b = none) : LF w h₀ G' L h' m c p16 p107 := by
  obtain ⟨oL, eL, -⟩ := LCg.ns_obj F.ns
  refine ⟨F.ns.keeps k, k2, hn _ _ eL F.gL, fun i hi => cell_kp (F.cl i hi) k, fun i hi => ?_, k _ _ F.t16, k _ _ F.t107, hn _ _ F.t16 F.g16, hn _ _ F.t107 F.g107, fun b o h1 h2 e => k1 _ _ (F.og b o h1 h2 e), F.X.keeps k1, ?_, F.bl⟩
  · obtain ⟨oc, ec, -⟩ := F.cl i hi
    exact hn _ _ ec (F.gc i hi)
  · obtain ⟨sl4, e⟩ := F.m4; exact ⟨sl4, k1 _ _ e⟩
theorem LF.bs (F : LF w h₀ G L h m c p16 p107) : Bs w h := F.X.keeps F.gh
theorem LF.mixed (F : LF w h₀ G L h m c p16 p107) (k : Kp h h') : LF w h₀ (mix G h h') L h' m c p16 p107 :=
  F.grow k (mix_old (Kp.trans F.gh k)) mix_kp fun b o e g => mix_none e g
variable {M : Model} {A : Around} {E : Value → Shared → Prop} {s : Shared}
theorem LF.stL {x : Str} {v : Value} {Q : Unit → Shared → Prop} (F : LF w h₀ G L s.heap m c p16 p107) (h : ∀ h', LF w h₀ G L h' (fun y => if y = x then some v else m y) c p16 p107 → Heap.SameBut L s.heap h' → Q () { s with heap := h', toks := s.toks + 1 })
    (hl : (lE L).kindOf x = some .local := by kernel_rfl) : wpAny M A (storeName (lE L) x v) Q E s := by
  refine wpAny_storeName_local hl F.ns (fun h' hn hs => h h' ⟨hn, fun b o e => hs.extBut b o (fun q => by rw [q] at e; have := F.gL; rw [show (lE L).locals = L from rfl] at e; rw [this] at e; cases e) (F.gh b o e), F.gL, fun i hi => ?_, F.gc, ?_, ?_, F.g16, F.g107, F.og, F.X, F.m4, F.bl⟩ hs) (by kernel_rfl)
  · obtain ⟨o, e, d⟩ := F.cl i hi
    exact ⟨o, hs.extBut _ _ (show L + 1 + i ≠ L by lia) e, d⟩
  · exact hs.extBut _ _ (show 16 ≠ L by have := F.bl; lia) F.t16
  · exact hs.extBut _ _ (show 107 ≠ L by have := F.bl; lia) F.t107
theorem LF.stC {x : Str} {v : Value} {i : Nat} {Q : Unit → Shared → Prop} (F : LF w h₀ G L s.heap m c p16 p107) (h : ∀ h', LF w h₀ G L h' m (fun j => if j = i then some v else c j) p16 p107 → Q () { s with heap := h' }) (hi : i < 5 := by decide)
    (hc : (lE L).cells.lookup x = some (L + 1 + i) := by kernel_rfl) (hl : (lE L).kindOf x = some .cell := by kernel_rfl) : wpAny M A (storeName (lE L) x v) Q E s := by
  refine wpAny_storeName_cell (by kernel_rfl) hl hc (F.cl i hi) fun h' hv hs => h h' ⟨?_, fun b o e => hs.extBut b o (fun q => by rw [q, F.gc i hi] at e; cases e) (F.gh b o e), F.gL, fun j hj => ?_, F.gc, ?_, ?_, F.g16, F.g107, F.og, F.X, F.m4, F.bl⟩
  · exact F.ns.sameBut hs (show L ≠ L + 1 + i by lia)
  · by_cases q : j = i
    · subst q; simpa using hv
    · obtain ⟨o, e, d⟩ := F.cl j hj
      simp only [q, if_false]
      exact ⟨o, hs.extBut _ _ (fun z => q (Nat.add_left_cancel (show (L + 1) + j = (L + 1) + i from z))) e, d⟩
  · exact hs.extBut _ _ (show 16 ≠ L + 1 + i by have := F.bl; lia) F.t16
  · exact hs.extBut _ _ (show 107 ≠ L + 1 + i by have := F.bl; lia) F.t107
end
section
variable {w : World} {M : Model} {A : Around} {E : Value → Shared → Prop} {Q : Value → Shared → Prop} {s : Shared} {env : Env}
/-- a local name of any frame -/
theorem eL {x : Str} {pos : Pos} {v : Value} {m : Str → Option Value} (N : s.heap.Ns env.locals m) (hv : m x = some v) (h : Q v s) (hk : env.scope.kind = .function := by kernel_rfl) (hl : env.kindOf x = some .local := by kernel_rfl) (hd : (x == ("__debug__" : Str)) = false := by kernel_rfl) : wpAny M A (eval (.Name x pos) env) Q E s :=
  wpAny_Name (wpAny_loadName_local hk hl N hv h) hd
theorem eC {x : Str} {pos : Pos} {v : Value} {a : Addr} (N : s.heap.IsCell a (some v)) (h : Q v s) (hc : env.cells.lookup x = some a := by kernel_rfl) (hk : env.scope.kind = .function := by kernel_rfl) (hl : env.kindOf x = some .cell := by kernel_rfl) (hd : (x == ("__debug__" : Str)) = false := by kernel_rfl) : wpAny M A (eval (.Name x pos) env) Q E s :=
  wpAny_Name (wpAny_loadName_cell hk hl hc N h) hd
theorem eF {x : Str} {pos : Pos} {v : Value} {a : Addr} (N : s.heap.IsCell a (some v)) (h : Q v s) (hc : env.cells.lookup x = some a := by kernel_rfl) (hk : env.scope.kind = .function := by kernel_rfl) (hl : env.kindOf x = some .free := by kernel_rfl) (hd : (x == ("__debug__" : Str)) = false := by kernel_rfl) (hn : (x == ("__classdict__" : Str)) = false := by kernel_rfl) : wpAny M A (eval (.Name x pos) env) Q E s :=
  wpAny_Name (wpAny_loadName_free hk hl hc N h hn) hd
theorem eG {x : Str} {pos : Pos} {v : Value} (X : Bs w s.heap) (h : Q v s) (hg : env.globals = 3 := by kernel_rfl) (hk : env.scope.kind = .function := by kernel_rfl) (hl : env.kindOf x = some .globalImplicit := by kernel_rfl) (hd : (x == ("__debug__" : Str)) = false := by kernel_rfl)
    (hv : nsIn (KF w.params) 3 x = some (some v) := by kernel_rfl) : wpAny M A (eval (.Name x pos) env) Q E s :=
  Name_function_global hk hl (by
    unfold loadGlobal
    rw [hg]
    exact wpAny_bind ((looks_nsIn X.X hv).here (wpAny_pure h))) hd
theorem eB {x : Str} {pos : Pos} {v : Value} (X : Bs w s.heap) (h : Q v s) (hg : env.globals = 3 := by kernel_rfl) (hb : env.builtins = 0 := by kernel_rfl) (hk : env.scope.kind = .function := by kernel_rfl) (hl : env.kindOf x = some .globalImplicit := by kernel_rfl) (hd : (x == ("__debug__" : Str)) = false := by kernel_rfl)
    (hn : nsIn (KF w.params) 3 x = some none := by kernel_rfl) (hx : x ≠ "__name__" := by decide +kernel) (hv : bootBuiltins x = some v := by kernel_rfl) : wpAny M A (eval (.Name x pos) env) Q E s :=
  Name_function_global hk hl (by
    obtain ⟨mb, hb', e⟩ := X.B
    unfold loadGlobal
    rw [hg, hb]
    refine wpAny_bind ((looks_nsIn X.X hn).here ?_)
    dsimp only
    refine wpAny_bind (wpAny_nsGet hb' ?_)
    rw [e x hx, hv]
    exact wpAny_pure h) hd
end
end
end Mine
namespace Mine
section
open PySem PySem.W PySem.W.X PyProof.Rows PySem.Spec PySem.Calls
set_option maxRecDepth 100000
set_option maxHeartbeats 0
set_option linter.unusedVariables false
set_option linter.unusedSimpArgs false
/-- the i-th statement of law -/
noncomputable def lS (i : Nat) : Stmt := (fdBody (gSt 16)).getD i (.Pass ⟨0, 0, 0, 0⟩)
theorem lbody : fdBody (gSt 16) = [lS 0, lS 1, lS 2, lS 3, lS 4, lS 5, lS 6, lS 7, lS 8, lS 9] := by kernel_rfl
/-- a comprehension with one name and no test -/
theorem LcGo.name {prog : Program} {w : World} {A : Around} {env : Env} {elt : Expr} {x : Str} {px : Pos} {scope : Scope} {cl : List (Str × Addr)} {Q : Value → Shared → Prop} {s : Shared} {n : Nat} {P : Nat → Value → Prop} {G : Heap} {J : Nat → List Value → Heap → Prop}
    (hh : A.handled = none) (sz : n ≤ 100) (hG : Kp G s.heap) (mono : ∀ i ys G G', J i ys G → Kp G G' → J i ys G') (zero : J 0 [] G) (hkind : scope.kind = .function) (hx : scope.names.lookup x = some .local)
    (body : ∀ (i : Nat) (v : Value) (ys : List Value) (G₁ h : Heap) (tk : Nat) (C : Addr) (m₂ : Str → Option Value) (E' : Value → Shared → Prop), i < n → P i v → J i ys G₁ → Kp G G₁ → Kp G₁ h → Kp s.heap h → h.Ns C m₂ → m₂ x = some v →
      wpAny (model prog w) A (eval elt (compEnvC scope cl C env)) (fun y s'' => Turn s G₁ h (J (i + 1)) s'' (ys ++ [y])) E' { s with heap := h, toks := tk })
    (fin : LcEnd s G (J n) Q) : LcGo prog w A env elt (.Name x px) [] scope cl Q s n P G J (fun v m₂ => m₂ x = some v) :=
  ⟨hh, sz, hG, mono, zero, fun i v C s' m' E' Q' _ _ hn h => asg_name hkind hx hn h, fun i v ys G₁ h tk C m₂ E' h1 h2 h3 h4 h5 h6 h7 h8 => wpAny_tests_nil (by rw [if_pos rfl]; exact body i v ys G₁ h tk C m₂ E' h1 h2 h3 h4 h5 h6 h7 h8), fin⟩
/-- small ints -/
noncomputable def Sm (v : Value) : Prop := ∃ (z : Nat) (t : Tok), v = .int (z : Nat) t ∧ z < 1000000
noncomputable def NumsAt (G : Heap) (a : Addr) : Prop := ∃ ys, G.get? a = some (lst ys) ∧ ys.length ≤ 63 ∧ ∀ v ∈ ys, Sm v
/-- what a statement of law leaves -/
noncomputable abbrev Left (w : World) (h₀ : Heap) (L : Nat) (s : Shared) (m : Str → Option Value) (c : Nat → Option Value) (p16 p107 : Array Value) (G : Heap) (P : Heap → Prop) (f : Flow) (s' : Shared) : Prop :=
  f = .next ∧ ∃ h' tk G', s' = { s with heap := h', toks := tk } ∧ LF w h₀ G' L h' m c p16 p107 ∧ Kp G G' ∧ P G'
section
variable {w : World} {h₀ G : Heap} {L : Nat} {m : Str → Option Value} {c : Nat → Option Value} {p16 p107 : Array Value} {A : Around} {E : Value → Shared → Prop} {s : Shared}
theorem st0 {l : Addr} {its : Array Value} (r : Rm A 1) (F : LF w h₀ G L s.heap m c p16 p107) (hm : m (nn "script") = some (.ref l)) (hl : G.IsList l its) (hz : its.size ≤ 63) (hi : ∀ v ∈ its, ∃ z t, v = .int z t) :
    wpAny (model Challenge.rw_mg0016_01.prog w) A (exec (lS 0) (lE L)) (fun f s' => ∃ a, Left w h₀ L s m (fun j => if j = 0 then some (.ref a) else c j) p16 p107 G (fun G' => NumsAt G' a) f s') E s := by
  refine wpAny_Assign_Name ?_ (by with_unfolding_all rfl)
  refine lc_ (cl := []) (by with_unfolding_all rfl) (by decide +kernel) (by rfl) (by decide +kernel) (by intro _ _; rfl) ?_
  refine Subscript_ (eL F.ns hm ?_)
  rw [arm_eval_Slice]
  refine wpAny_bind (m := valueOrNone (evalOpt none (lE L))) (wpAny_pure ?_)
  refine wpAny_bind (wpAny_holding (m := valueOrNone (evalOpt (some (.Constant (.int 63) 0 ⟨104, 44, 104, 46⟩)) (lE L))) (wpAny_Constant_int (k := 0) (pos := ⟨104, 44, 104, 46⟩) ?_))
  refine wpAny_bind (wpAny_holding (m := valueOrNone (evalOpt none (lE L))) (wpAny_pure ?_))
  refine wpAny_bind (wpAny_alloc (wpAny_pure ?_))
  have hl₁ : s.heap.IsList l its := by obtain ⟨o, e, q⟩ := hl; exact ⟨o, F.gh _ _ e, q⟩
  refine slice_listK (s := { s with toks := s.toks + 1 }) hl₁ .none (.int 63 _) ?_ (hsz := by rw [sizeLine_eq]; lia)
  dsimp only
  have k₂ : Kp s.heap ((s.heap.push { cls := .type "slice", data := .fields #[.none, .int 63 s.toks, .none] }).push { cls := .type "list", data := .seq (slicePick its none (some 63) none) }) := Kp.trans (kp_push _ _) (kp_push _ _)
  have hsz := slicePick_size_le its none (some 63) none
  refine ⟨(slicePick its none (some 63) none).size, fun i v => ∃ z t, v = .int z t, G, fun i ys _ => ys.length = i ∧ ∀ v ∈ ys, Sm v, _, .inl ⟨s.heap.objs.size + 1, slicePick its none (some 63) none, rfl, ?_, rfl, fun i v e => ?_⟩,
    LcGo.name r.hh (by lia) (Kp.trans F.gh k₂) (fun _ _ _ _ h _ => h) ⟨rfl, fun _ h => nomatch h⟩ rfl (by kernel_rfl) ?_ ?_⟩
  · exact ⟨_, by rw [show s.heap.objs.size + 1 = (s.heap.push { cls := .type "slice", data := .fields #[.none, .int 63 s.toks, .none] }).objs.size from (size_push' ..).symm]; exact Heap.get?_push_size _ rfl, rfl, _, rfl⟩
  · have hv : v ∈ slicePick its none (some 63) none := Array.mem_of_getElem? e
    unfold slicePick at hv
    simp only [List.mem_toArray, List.mem_filterMap] at hv
    obtain ⟨j, _, e'⟩ := hv
    exact hi v (Array.mem_of_getElem? e')
  · rintro i v ys G₁ h tk C m₂ E' hi' ⟨z, tz, rfl⟩ ⟨j1, j2⟩ g1 g2 k₃ hn hx
    refine wpAny_BinOp (eL hn hx (wpAny_BinOp (wpAny_Constant_int (wpAny_Constant_int (pow_int_small (by decide) (by decide) (by decide) ?_)))))
    refine mod_int' (by decide) ⟨h, _, rfl, Kp.refl _, fun _ _ _ => ⟨by rw [List.length_append, List.length_singleton, j1], fun v hv => ?_⟩⟩
    rcases List.mem_append.mp hv with hv | hv
    · exact j2 v hv
    · rw [List.mem_singleton.mp hv]
      have e : Int.fmod z (10 ^ Int.toNat 6) = ((z.fmod 1000000).toNat : Int) := by
        have : 0 ≤ z.fmod 1000000 := Int.fmod_nonneg_of_pos _ (by decide)
        rw [Int.toNat_of_nonneg this]; rfl
      have h2 : z.fmod 1000000 < 1000000 := Int.fmod_lt_of_pos _ (by decide)
      refine ⟨(z.fmod 1000000).toNat, _, congrArg (fun x => Value.int x _) e, by lia⟩
  · intro D ys h' tk' G' k₄ hD g1 g2 gD ⟨j1, j2⟩ hn
    refine (F.grow (Kp.trans k₂ k₄) g1 g2 fun b o e g => hn b o (k₂ b o e) g).stC (s := { s with heap := h', toks := tk' }) (i := 0) fun h₅ F₅ => ?_
    exact ⟨D, rfl, h₅, _, G', rfl, F₅, g1, ys, gD, by lia, j2⟩
end
end
end Mine
namespace Mine
section
open PySem PySem.W PySem.W.X PyProof.Rows PySem.Spec PySem.Calls
set_option maxRecDepth 100000
set_option maxHeartbeats 0
set_option linter.unusedVariables false
set_option linter.unusedSimpArgs false
section
variable {w : World} {A : Around} {E : Value → Shared → Prop} {Q : Value → Shared → Prop} {s : Shared} {env : Env} {prog : Program}
/-- a built-in type called upon places -/
theorem cwT {pos : Pos} {T : String} {args : List (Bool × Sem Value)} {x : Sem Value} {rest : List (Bool × Sem Value)} {M : Model}
    (h : wpAny M A (spliced args) (fun vs s₁ => wpAny M A (call (.type T) vs) Q E s₁) E s) (ha : args = (false, x) :: rest := by rfl) (hplain : args.any (·.1) = false := by kernel_rfl) : wpAny M A (callWith pos (.type T) [] args []) Q E s := by
  subst ha
  exact PyProof.Rows.callWith_type hplain (evalArgs_plain h)
/-- range upon one expression -/
theorem rangeE {p0 p2 : Pos} {e : Expr} {n : Int} (X : Bs w s.heap)
    (h : wpAny (model prog w) A (eval e env) (fun v s₁ => ∃ t tk, v = .int n t ∧ s₁ = { s with toks := tk } ∧ ∀ h' tk' r t1 t2 t3, Kp s.heap h' → s.heap.get? r = none → IsRange h' r 0 n 1 t1 t2 t3 → Q (.ref r) { s with heap := h', toks := tk' }) E s)
    (he : starEach [e] env = [(false, eval e env)] := by rfl)
    (hg : env.globals = 3 := by kernel_rfl) (hb : env.builtins = 0 := by kernel_rfl) (hk : env.scope.kind = .function := by kernel_rfl) (hl : env.kindOf (nn "range") = some .globalImplicit := by kernel_rfl) :
    wpAny (model prog w) A (eval (.Call (.Name (nn "range") p0) [e] [] p2) env) Q E s := by
  refine wpAny_Call_NameR (eB (v := .type "range") X ?_ hg hb hk hl)
  rw [he]
  refine cwT (spliced_cons (wpAny_mono h (fun v s₁ h₁ => ?_) fun _ _ e => e))
  obtain ⟨t, tk, rfl, rfl, hq⟩ := h₁
  refine spliced_nil (call_range_1 ?_)
  exact hq _ _ _ _ _ _ (kp_push _ _) (Heap.get?_none_of_le (Nat.le_refl _)) (Heap.get?_push_size _ rfl)
/-- a slice with a step -/
theorem slice_st {value slice : Expr} {l : Addr} {items : Array Value} {vl vu vk : Value} {lo hi st : Option Int} {ops : List Value}
    (hl : s.heap.IsList l items) (pl : IsPart vl lo) (pu : IsPart vu hi) (pk : IsPart vk st) (h0 : st ≠ some 0)
    (h : ∀ h', Kp s.heap h' → h'.IsList (s.heap.objs.size + 1) (slicePick items lo hi st) → Q (.ref (s.heap.objs.size + 1)) { s with heap := h' })
    (hs : subscripted slice false (.ref l) (.ref s.heap.objs.size) = operate ops (getItem (.ref l) (.ref s.heap.objs.size)) := by with_unfolding_all rfl)
    (hsz : items.size ≤ sizeLine := by size_fits) :
    wpAny (model prog w) A (subscriptTail value slice (.ref l) (.ref s.heap.objs.size)) Q E { s with heap := s.heap.push { cls := .type "slice", data := .fields #[vl, vu, vk] } } := by
  refine tail_any (Heap.IsList.typeIs (s := { s with heap := s.heap.push { cls := .type "slice", data := .fields #[vl, vu, vk] } }) (hl.push _)) list_getitem_lookup
    (wpAny_getItem_list_slice (hl.push _) (Heap.IsSliceOf.new ..) pl pu pk h0 ?_ hsz) hs
  show Q (.ref (s.heap.push _).objs.size) _
  rw [size_push']
  have e : ((s.heap.push { cls := .type "slice", data := .fields #[vl, vu, vk] }).push { cls := .type "list", data := .seq (slicePick items lo hi st) }).get? (s.heap.objs.size + 1) = some { cls := .type "list", data := .seq (slicePick items lo hi st) 0 } := by
    rw [← size_push']
    exact Heap.get?_push_size _ rfl
  exact h _ (Kp.trans (kp_push _ _) (kp_push _ _)) ⟨_, e, rfl, 0, rfl⟩
theorem itemT {value slice : Expr} {t : Addr} {items : Array Value} {k : Nat} {u : Tok} {x : Value} {ops : List Value} (ht : IsTup s.heap t items) (hk : k < 1000) (hx : items[k]? = some x) (h : Q x s)
    (hs : subscripted slice false (.ref t) (.int (k : Nat) u) = operate ops (getItem (.ref t) (.int (k : Nat) u)) := by with_unfolding_all rfl) : wpAny (model prog w) A (subscriptTail value slice (.ref t) (.int (k : Nat) u)) Q E s := by
  have hlt : k < items.size := by
    by_cases q : k < items.size
    · exact q
    · rw [Array.getElem?_eq_none (by lia)] at hx; cases hx
  refine tail_any ht.typeIs PyProof.Rows.slot_tuple_getitem.lookup (getItem_tuple ht (by lia) (by lia) (j := k) ?_ hx h) hs
  unfold seqIndex?
  have h1 : ¬ (k : Int) < 0 := by lia
  have h2 : (decide ((0 : Int) ≤ k) && decide ((k : Int) < items.size)) = true := by simp; lia
  simp only [h1, if_false]
  rw [if_pos h2]; rfl
theorem itemL {value slice : Expr} {t : Addr} {items : Array Value} {k : Nat} {u : Tok} {x : Value} {ops : List Value} (ht : s.heap.IsList t items) (hk : k < 1000) (hx : items[k]? = some x) (h : Q x s)
    (hs : subscripted slice false (.ref t) (.int (k : Nat) u) = operate ops (getItem (.ref t) (.int (k : Nat) u)) := by with_unfolding_all rfl) : wpAny (model prog w) A (subscriptTail value slice (.ref t) (.int (k : Nat) u)) Q E s :=
  tail_any ht.typeIs list_getitem_lookup (wpAny_getItem_list ht (by lia) (by lia) (by simpa using hx) h) hs
theorem tupE {elts : List Expr} {x1 : Nat} {pos : Pos} (h : wpAny (model prog w) A (spliced (backTo pos (starEach elts env))) (fun vs s₁ => vs.length ≤ 100 ∧ ∀ h' T, Kp s₁.heap h' → s₁.heap.get? T = none → IsTup h' T vs.toArray → Q (.ref T) { s₁ with heap := h' }) E s) :
    wpAny (model prog w) A (eval (.Tuple elts x1 pos) env) Q E s :=
  wpAny_Tuple_spliced (wpAny_mono h (fun vs s₁ h₁ => ⟨by rw [sizeLine_eq]; lia, h₁.2 _ _ (kp_push _ _) (Heap.get?_none_of_le (Nat.le_refl _)) ⟨_, Heap.get?_push_size _ rfl, rfl, _, rfl⟩⟩) fun _ _ e => e)
theorem listE {elts : List Expr} {pos : Pos} (h : wpAny (model prog w) A (spliced (backTo pos (starEach elts env))) (fun vs s₁ => vs.length ≤ 100 ∧ ∀ h' T, Kp s₁.heap h' → s₁.heap.get? T = none → h'.get? T = some { cls := .type "list", data := .seq vs.toArray 0 } → Q (.ref T) { s₁ with heap := h' }) E s) :
    wpAny (model prog w) A (eval (.List elts pos) env) Q E s :=
  wpAny_List_spliced (wpAny_mono h (fun vs s₁ h₁ => ⟨by rw [sizeLine_eq]; lia, h₁.2 _ _ (kp_push _ _) (Heap.get?_none_of_le (Nat.le_refl _)) (Heap.get?_push_size _ rfl)⟩) fun _ _ e => e)
theorem preSum_bd {val : Nat → Int} : ∀ n : Nat, (∀ i, i < n → 0 ≤ val i ∧ val i < 1000000) → 0 ≤ preSum val n ∧ preSum val n ≤ n * 1000000
  | 0, _ => by simp [preSum]
  | n + 1, h => by
    have ih := preSum_bd n fun i hi => h i (by lia)
    have := h n (by lia)
    rw [preSum]
    lia
noncomputable def numV : Value → Int
  | .int z _ => z
  | _ => 0
theorem sumL {l : Addr} {its : Array Value} (hh : A.handled = none) (hl : s.heap.IsList l its) (hz : its.size ≤ 63) (hi : ∀ v ∈ its, Sm v)
    (h : ∀ h' tk t' (z : Nat), Kp s.heap h' → z ≤ 63000000 → Q (.int (z : Nat) t') { s with heap := h', toks := tk }) : wpAny (model prog w) A (call (.builtin "sum") [.ref l]) Q E s := by
  have hlt : l < s.heap.objs.size := by obtain ⟨_, e, _⟩ := hl; exact Heap.lt_size e
  have hv : ∀ i v, its[i]? = some v → ∃ t, v = Value.int (numV (its.getD i Value.none)) t := by
    intro i v e
    obtain ⟨z, t, rfl, _⟩ := hi v (Array.mem_of_getElem? e)
    refine ⟨t, ?_⟩
    rw [Array.getD_eq_getD_getElem?, e]; rfl
  have hb : ∀ i, i < its.size → 0 ≤ numV (its.getD i Value.none) ∧ numV (its.getD i Value.none) < 1000000 := by
    intro i h
    have e : its[i]? = some its[i] := Array.getElem?_eq_getElem h
    obtain ⟨z, t, ez, hz⟩ := hi _ (Array.mem_of_getElem? e)
    rw [Array.getD_eq_getD_getElem?, e, ez]
    show 0 ≤ ((z : Nat) : Int) ∧ ((z : Nat) : Int) < 1000000
    lia
  refine call_sum_walk (wpAny_pyIter_list hl ?_)
  refine ⟨s.heap.objs.size, [s.heap.objs.size, l], [s.heap.objs.size], its.size, fun i v => its[i]? = some v, (fun i h => h.IsListIter s.heap.objs.size l i ∧ h.IsList l its), fun i => numV (its.getD i Value.none), rfl,
    Walks.list (A := A.in1) hh _ l (Nat.ne_of_lt hlt) its, ⟨⟨_, Heap.get?_push_size _ rfl, rfl, rfl⟩, hl.push _⟩, fun b hb => ?_, hv, fun j hj => ?_, fun h' tk t' k => ?_⟩
  · show b < (s.heap.push _).objs.size
    rw [Heap.size_push]
    rcases List.mem_cons.mp hb with rfl | hb
    · exact Nat.lt_succ_self _
    · rw [List.mem_singleton.mp hb]; exact Nat.lt_succ_of_lt hlt
  · have h1 := hb j hj
    have h2 := preSum_bd (val := fun i => numV (its.getD i Value.none)) (j + 1) fun i hi => hb i (by lia)
    unfold InLong
    dsimp only
    lia
  · have h2 := preSum_bd (val := fun i => numV (its.getD i Value.none)) its.size hb
    have e : preSum (fun i => numV (its.getD i Value.none)) its.size = ((preSum (fun i => numV (its.getD i Value.none)) its.size).toNat : Int) := (Int.toNat_of_nonneg h2.1).symm
    rw [e]
    refine h h' tk t' _ (fun b o e => k b o ?_ (Heap.get?_push_of_some _ e)) (by lia)
    intro q
    have hb' := ltS e
    rw [List.mem_singleton.mp q] at hb'
    exact Nat.lt_irrefl _ hb'
end
/-- the seven names -/
noncomputable def NamesAt (G : Heap) (D : Addr) (nm : Nat → Str) : Prop := ∃ ys, G.get? D = some (lst ys) ∧ ys.length = 7 ∧ ∀ i, i < 7 → (nm i).length ≤ 6 ∧ ∃ u, ys[i]? = some (.str (nm i) u)
theorem nameF_len : ∀ (k n : Nat) (t : Str), (nameF k t n).length ≤ t.length + k
  | 0, n, t => Nat.le_refl _
  | k + 1, n, t => by
    rw [nameF]
    split
    · have := nameF_len k (n / 13) (t ++ ⟨#[sg n]⟩)
      rw [Str.length_append] at this
      have e : (⟨#[sg n]⟩ : Str).length = 1 := rfl
      lia
    · lia
noncomputable def strV : Value → Str
  | .str t _ => t
  | _ => nn ""
theorem pick7 (t0 t1 t2 t3 t4 t5 t6 : Tok) {i : Nat} (h : i < 7) : ∃ (y : Nat) (ty : Tok), (List.toArray [Value.int 741 t0, .int 92 t1, .int 1235 t2, .int 2 t3, .int 73 t4, .int 3 t5, .int 0 t6])[i]? = some (Value.int (y : Nat) ty) ∧ y ≤ 1235 :=
  match i, h with
  | 0, _ => ⟨741, t0, rfl, by lia⟩
  | 1, _ => ⟨92, t1, rfl, by lia⟩
  | 2, _ => ⟨1235, t2, rfl, by lia⟩
  | 3, _ => ⟨2, t3, rfl, by lia⟩
  | 4, _ => ⟨73, t4, rfl, by lia⟩
  | 5, _ => ⟨3, t5, rfl, by lia⟩
  | 6, _ => ⟨0, t6, rfl, by lia⟩
section
variable {w : World} {h₀ G : Heap} {L : Nat} {m : Str → Option Value} {c : Nat → Option Value} {p16 p107 : Array Value} {A : Around} {E : Value → Shared → Prop} {s : Shared}
theorem st1 {a : Addr} (r : Rm A 4) (F : LF w h₀ G L s.heap m c p16 p107) (hc : c 0 = some (.ref a)) (hn : NumsAt G a) :
    wpAny (model Challenge.rw_mg0016_01.prog w) A (exec (lS 1) (lE L)) (fun f s' => ∃ D nm, Left w h₀ L s m (fun j => if j = 4 then some (.ref D) else c j) p16 p107 G (fun G' => NamesAt G' D nm) f s') E s := by
  obtain ⟨ns, ens, nsl, nsm⟩ := hn
  refine wpAny_Assign_Name ?_ (by with_unfolding_all rfl)
  refine lc_ (cl := [(nn "numbers", L + 1)]) (by with_unfolding_all rfl) (by decide +kernel) (by rfl) (by decide +kernel) (by intro _ _; rfl) ?_
  refine rangeE (n := 7) F.bs (wpAny_Constant_int ⟨_, _, rfl, rfl, fun h₁ tk₁ ra t1 t2 t3 k₁ hra hr => ?_⟩)
  refine ⟨7, fun i v => ∃ t, v = .int (i : Nat) t, G, fun i ys _ => ys.length = i ∧ ∀ v ∈ ys, ∃ t u, v = .str t u ∧ t.length ≤ 6, _, .inr ⟨ra, 0, t1, t2, t3, rfl, hr, by decide +kernel, by decide +kernel, fun i t => ⟨t, by rw [Int.zero_add]⟩⟩,
    LcGo.name r.hh (by lia) (Kp.trans F.gh k₁) (fun _ _ _ _ h _ => h) ⟨rfl, fun _ h => nomatch h⟩ rfl (by kernel_rfl) ?_ ?_⟩
  · rintro i v ys G₁ h tk C m₂ E' hi' ⟨tz, rfl⟩ ⟨j1, j2⟩ g1 g2 k₃ hn hx
    dsimp only at k₃
    have k₄ : Kp s.heap h := Kp.trans k₁ k₃
    have X : Bs w h := F.bs.keeps k₄
    have cn : h.IsCell (L + 1) (some (.ref a)) := by have := cell_kp (F.cl 0 (by decide)) k₄; rw [hc] at this; exact this
    have ln : h.IsList a ns.toArray := lst_list (g2 _ _ (g1 _ _ ens))
    refine wpAny_Call_NameR (eG (v := .ref 77) X (cwF (w := w) (spliced_cons (wpAny_BinOp (wpAny_Call_NameR (eB (v := .builtin "sum") X (cwB (spliced_cons (Subscript_ (eC (a := L + 1) cn ?_))))))))))
    rw [arm_eval_Slice]
    refine wpAny_bind (m := valueOrNone (evalOpt (some (.Name (nn "j") ⟨105, 35, 105, 36⟩)) _)) (eL hn hx ?_)
    refine wpAny_bind (wpAny_holding (m := valueOrNone (evalOpt none _)) (wpAny_pure ?_))
    refine wpAny_bind (wpAny_holding (m := valueOrNone (evalOpt (some (.Constant (.int 7) 0 ⟨105, 38, 105, 39⟩)) _)) (wpAny_Constant_int (k := 0) (pos := ⟨105, 38, 105, 39⟩) ?_))
    refine wpAny_bind (wpAny_alloc (wpAny_pure ?_))
    have hsz : ns.toArray.size ≤ 63 := by rw [List.size_toArray]; exact nsl
    refine slice_st (s := { s with heap := h, toks := tk + 1 }) ln (.int _ _) .none (.int _ _) (by decide) (fun h₅ k₅ l₅ => ?_) (hsz := by rw [sizeLine_eq]; lia)
    refine spliced_nil (sumL (s := { s with heap := h₅, toks := tk + 1 }) r.hh l₅ (Nat.le_trans (slicePick_size_le _ _ _ _) hsz) (fun v hv => ?_) fun h₆ tk₆ t₆ z k₆ hz => ?_)
    · unfold slicePick at hv
      simp only [List.mem_toArray, List.mem_filterMap] at hv
      obtain ⟨j, _, e'⟩ := hv
      exact nsm v (by have := Array.mem_of_getElem? e'; simpa using this)
    have ck : ∀ (n : Int) (p : Pos) (Q' : Value → Shared → Prop) (s' : Shared) (e' : Env), Q' (.int n s'.toks) { s' with toks := s'.toks + 1 } → wpAny (model Challenge.rw_mg0016_01.prog w) A (eval (.Constant (.int n) 0 p) e') Q' E' s' := fun n p Q' s' e' h => wpAny_Constant_int h
    refine Subscript_ (tupE (spliced_cons (ck 741 ⟨105, 45, 105, 48⟩ _ _ _ (spliced_cons (ck 92 ⟨105, 50, 105, 52⟩ _ _ _ (spliced_cons (ck 1235 ⟨105, 54, 105, 58⟩ _ _ _ (spliced_cons (ck 2 ⟨105, 60, 105, 61⟩ _ _ _ (spliced_cons (ck 73 ⟨105, 63, 105, 65⟩ _ _ _ (spliced_cons (ck 3 ⟨105, 67, 105, 68⟩ _ _ _ (spliced_cons (ck 0 ⟨105, 70, 105, 71⟩ _ _ _ (spliced_nil ⟨Nat.le_of_ble_eq_true rfl, fun h₇ T k₇ hT0 hT => ?_⟩))))))))))))))))
    dsimp only
    have k₈ : Kp h h₇ := Kp.trans (Kp.trans k₅ k₆) k₇
    refine eL (hn.keeps k₈) hx ?_
    obtain ⟨y, ty, ey, hy⟩ := pick7 tk₆ (tk₆ + 1) (tk₆ + 1 + 1) (tk₆ + 1 + 1 + 1) (tk₆ + 1 + 1 + 1 + 1) (tk₆ + 1 + 1 + 1 + 1 + 1) (tk₆ + 1 + 1 + 1 + 1 + 1 + 1) hi'
    refine itemT hT (by lia) ey ?_
    refine P.add_int (spliced_nil ⟨F.bs.keeps (Kp.trans k₄ k₈), ?_⟩)
    rw [show ((z : Nat) : Int) + ((y : Nat) : Int) = ((z + y : Nat) : Int) by lia]
    refine name_ (s := { s with heap := h₇, toks := _ }) (r.le (by lia)) (F.bs.keeps (Kp.trans k₄ k₈)) (by lia) fun h₉ t₉ tk₉ k₉ z₉ => ?_
    refine ⟨h₉, t₉, rfl, Kp.trans k₈ k₉, fun _ _ _ => ⟨by rw [List.length_append, List.length_singleton, j1], fun v hv => ?_⟩⟩
    rcases List.mem_append.mp hv with hv | hv
    · exact j2 v hv
    · rw [List.mem_singleton.mp hv]
      exact ⟨_, _, rfl, nameF_len 6 _ _⟩
  · intro D ys h' tk' G' k₄ hD g1 g2 gD ⟨j1, j2⟩ hn
    refine (F.grow (Kp.trans k₁ k₄) g1 g2 fun b o e g => hn b o (k₁ b o e) g).stC (s := { s with heap := h', toks := tk' }) (i := 4) fun h₅ F₅ => ?_
    refine ⟨D, fun i => strV (ys.getD i Value.none), rfl, h₅, _, G', rfl, F₅, g1, ys, gD, j1, fun i hi => ?_⟩
    have e : ys[i]? = some ys[i] := List.getElem?_eq_getElem (by lia)
    obtain ⟨t, u, e', hl⟩ := j2 _ (List.mem_of_getElem? e)
    dsimp only
    rw [List.getD_eq_getElem?_getD, e, e']
    exact ⟨hl, u, rfl⟩
end
end
end Mine
namespace Mine
section
open PySem PySem.W PySem.W.X PyProof.Rows PySem.Spec PySem.Calls
set_option maxRecDepth 100000
set_option maxHeartbeats 0
set_option linter.unusedVariables false
set_option linter.unusedSimpArgs false
theorem RowAt.keeps {h h' : Heap} {d : Addr} {rs : List (Int × Int)} (x : RowAt h d rs) (k : Kp h h') : RowAt h' d rs := by
  obtain ⟨ys, e, r⟩ := x
  exact ⟨ys, k _ _ e, r.keeps k⟩
/-- the seven rows -/
noncomputable def RowsAt (G : Heap) (D : Addr) (nm : Nat → Str) : Prop := ∃ ys, G.get? D = some (lst ys) ∧ ys.length = 7 ∧ ∀ i, i < 7 → ∃ d, ys[i]? = some (.ref d) ∧ RowAt G d (rowV (nm i))
theorem get_snoc {ys : List Value} {v : Value} {k n : Nat} (hl : ys.length = n) (hk : k < n + 1) : (k < n ∧ (ys ++ [v])[k]? = ys[k]?) ∨ (k = n ∧ (ys ++ [v])[k]? = some v) := by
  by_cases h : k < n
  · exact .inl ⟨h, by rw [List.getElem?_append_left (by lia)]⟩
  · refine .inr ⟨by lia, ?_⟩
    rw [List.getElem?_append_right (by lia), show k - ys.length = 0 by lia]; rfl
section
variable {w : World} {h₀ G : Heap} {L : Nat} {m : Str → Option Value} {c : Nat → Option Value} {p16 p107 : Array Value} {A : Around} {E : Value → Shared → Prop} {s : Shared}
theorem st2 {a : Addr} {nm : Nat → Str} (r : Rm A 4) (F : LF w h₀ G L s.heap m c p16 p107) (hc : c 4 = some (.ref a)) (hn : NamesAt G a nm) :
    wpAny (model Challenge.rw_mg0016_01.prog w) A (exec (lS 2) (lE L)) (fun f s' => ∃ D, Left w h₀ L s m (fun j => if j = 1 then some (.ref D) else c j) p16 p107 G (fun G' => RowsAt G' D nm) f s') E s := by
  obtain ⟨ns, ens, nsl, nsm⟩ := hn
  refine wpAny_Assign_Name ?_ (by with_unfolding_all rfl)
  refine lc_ (cl := []) (by with_unfolding_all rfl) (by decide +kernel) (by rfl) (by decide +kernel) (by intro _ _; rfl) ?_
  have cn : s.heap.IsCell (L + 1 + 4) (some (.ref a)) := by have := F.cl 4 (by decide); rw [hc] at this; exact this
  refine eC (a := L + 1 + 4) cn ?_
  have ln : s.heap.IsList a ns.toArray := lst_list (F.gh _ _ ens)
  refine ⟨7, fun i v => ∃ u, v = .str (nm i) u, G, fun i ys G' => ys.length = i ∧ ∀ k, k < i → ∃ d, ys[k]? = some (.ref d) ∧ RowAt G' d (rowV (nm k)), _, .inl ⟨a, ns.toArray, rfl, ln, by rw [List.size_toArray, nsl], fun i v e => ?_⟩,
    LcGo.name r.hh (by lia) F.gh (fun i ys G G' h k => ⟨h.1, fun j hj => ?_⟩) ⟨rfl, fun _ h => absurd h (Nat.not_lt_zero _)⟩ rfl (by kernel_rfl) ?_ ?_⟩
  · have e' : ns[i]? = some v := by simpa using e
    have hi : i < 7 := by have := (List.getElem?_eq_some_iff.mp e').1; lia
    obtain ⟨_, u, e2⟩ := nsm i hi
    rw [e'] at e2; exact ⟨u, Option.some.inj e2⟩
  · obtain ⟨d, e, q⟩ := h.2 j hj; exact ⟨d, e, q.keeps k⟩
  · rintro i v ys G₁ h tk C m₂ E' hi' ⟨tz, rfl⟩ ⟨j1, j2⟩ g1 g2 k₃ hn hx
    have X : Bs w h := F.bs.keeps k₃
    refine wpAny_Call_NameR (eG (v := .ref 105) X (cwF (w := w) (spliced_cons (eL hn hx (spliced_nil ⟨X, ?_⟩)))))
    refine row_ (s := { s with heap := h, toks := tk }) (r.le (by lia)) X (nsm i hi').1 fun D h' t' kp hD hrow => ?_
    refine ⟨h', t', rfl, kp, fun G₂ k₂ n₂ => ⟨by rw [List.length_append, List.length_singleton, j1], fun k hk => ?_⟩⟩
    rcases get_snoc (v := .ref D) j1 hk with ⟨hk, e⟩ | ⟨rfl, e⟩
    · obtain ⟨d, e', q⟩ := j2 k hk
      exact ⟨d, e.trans e', q.keeps k₂⟩
    · exact ⟨D, e, hrow G₂ n₂⟩
  · intro D ys h' tk' G' k₄ hD g1 g2 gD ⟨j1, j2⟩ hn
    refine (F.grow k₄ g1 g2 hn).stC (s := { s with heap := h', toks := tk' }) (i := 1) fun h₅ F₅ => ?_
    exact ⟨D, rfl, h₅, _, G', rfl, F₅, g1, ys, gD, j1, j2⟩
end
end
end Mine
namespace Mine
section
open PySem PySem.W PySem.W.X PyProof.Rows PySem.Spec PySem.Calls
set_option maxRecDepth 100000
set_option maxHeartbeats 0
set_option linter.unusedVariables false
set_option linter.unusedSimpArgs false
noncomputable def resO (op : CmpOp) (o : Ordering) : Bool := match op with | .Eq => o == .eq | .NotEq => o != .eq | .Lt => o == .lt | .LtE => o != .gt | .Gt => o == .gt | _ => o != .lt
theorem ci_dec (a b : Int) : resO .Eq (ci a b) = (a == b) ∧ resO .NotEq (ci a b) = (a != b) ∧ resO .Lt (ci a b) = decide (a < b) ∧ resO .LtE (ci a b) = decide (a ≤ b) ∧ resO .Gt (ci a b) = decide (a > b) ∧ resO .GtE (ci a b) = decide (a ≥ b) := by
  rcases Int.lt_trichotomy a b with h | h | h
  · rw [ci_lt h]
    have h1 : ¬ a = b := by lia
    have h2 : ¬ b < a := by lia
    have h3 : ¬ b ≤ a := by lia
    have h4 : a ≤ b := by lia
    simp [resO, bne, h, h1, h2, h3, h4]
  · subst h
    rw [ci_eq]
    simp [resO, bne]
  · rw [ci_gt h]
    have h1 : ¬ a = b := by lia
    have h2 : ¬ a < b := by lia
    have h3 : ¬ a ≤ b := by lia
    have h4 : b ≤ a := by lia
    simp [resO, bne, h, h1, h2, h3, h4]
theorem sub_tt : isSubtype (.type "tuple") (.type "tuple") = pure true := by rw [isSubtype_type]; kernel_rfl
theorem sub_ll : isSubtype (.type "list") (.type "list") = pure true := by rw [isSubtype_type]; kernel_rfl
section
variable {prog : Program} {w : World} {A : Around} {E : Value → Shared → Prop} {s : Shared} {Q : Value → Shared → Prop}
theorem tup_Lt {a b : Addr} {x1 x2 y1 y2 : Int} {t1 t2 u1 u2 : Tok} (ha : IsTup s.heap a #[.int x1 t1, .int x2 t2]) (hb : IsTup s.heap b #[.int y1 u1, .int y2 u2]) (hu : A.units < cLine)
    (h : Q (.bool (resO .Lt (cmpP (x1, x2) (y1, y2)))) s) : wpAny (model prog w) A (richCompare .Lt (.ref a) (.ref b)) Q E s := by
  refine wpAny_richCompare_same_room ha.typeIs hb.typeIs PySem.F.slot_tuple_lt (wpAny_call_entry PySem.F.slot_tuple_lt ha.typeIs PySem.F.entry_tuple_lt ?_ (PySem.F.args_tuple_lt_2 _ _)) hu
  show wpAny _ _ (slotArgs "__lt__" 1 ⟨[.ref a, .ref b], []⟩ >>= _) _ _ _
  refine wpAny_bind (wpAny_pure ?_)
  dsimp only
  refine wpAny_bind (wpAny_isInstance (T := "tuple") (b := true) hb.typeIs sub_tt ?_)
  rw [if_neg (by simp)]
  refine wpAny_bind (tupleItemsOf_ ha (wpAny_bind (tupleItemsOf_ hb ?_)))
  show wpAny _ _ (forIn [(Value.int x1 t1, Value.int y1 u1), (.int x2 t2, .int y2 u2)] _ _ >>= _) _ _ _
  rw [List.forIn_cons]
  refine wpAny_bind (wpAny_bind (wpAny_bind (wpAny_eqBool_int ?_)))
  unfold cmpP at h
  cases e : x1 == y1 with
  | false =>
    have hne : ci x1 y1 ≠ .eq := fun q => by have := (ci_dec x1 y1).1; rw [q, e] at this; cases this
    dsimp only at h
    rw [then_ne hne] at h
    rw [if_pos (by rfl : (!false) = true)]
    rw [(ci_dec x1 y1).2.2.1] at h
    refine wpAny_bind (wpAny_rule (wpAny_bind ?_))
    show wpAny _ _ (compareOp .Lt (.int x1 t1) (.int y1 u1)) _ _ _
    refine P.lt_int (wpAny_bind (wpAny_pure (wpAny_pure (wpAny_pure (wpAny_pure ⟨_, rfl, nofun, h⟩)))))
  | true =>
    have h1 : x1 = y1 := beq_iff_eq.mp e
    subst h1
    rw [if_neg (by decide)]
    refine wpAny_pure ?_
    dsimp only at h ⊢
    rw [ci_eq] at h
    replace h : Q (.bool (resO .Lt (ci x2 y2))) s := h
    rw [List.forIn_cons]
    refine wpAny_bind (wpAny_bind (wpAny_eqBool_int ?_))
    cases e2 : x2 == y2 with
    | false =>
      have hne : ci x2 y2 ≠ .eq := fun q => by have := (ci_dec x2 y2).1; rw [q, e2] at this; cases this
      rw [if_pos (by rfl : (!false) = true)]
      rw [(ci_dec x2 y2).2.2.1] at h
      refine wpAny_bind (wpAny_rule (wpAny_bind ?_))
      show wpAny _ _ (compareOp .Lt (.int x2 t2) (.int y2 u2)) _ _ _
      refine P.lt_int (wpAny_bind (wpAny_pure (wpAny_pure (wpAny_pure (wpAny_pure ⟨_, rfl, nofun, h⟩)))))
    | true =>
      have h2 : x2 = y2 := beq_iff_eq.mp e2
      subst h2
      rw [ci_eq] at h
      rw [if_neg (by decide)]
      refine wpAny_pure ?_
      dsimp only
      rw [List.forIn_nil]
      exact wpAny_pure (wpAny_pure ⟨_, rfl, nofun, h⟩)
theorem tup_LtE {a b : Addr} {x1 x2 y1 y2 : Int} {t1 t2 u1 u2 : Tok} (ha : IsTup s.heap a #[.int x1 t1, .int x2 t2]) (hb : IsTup s.heap b #[.int y1 u1, .int y2 u2]) (hu : A.units < cLine)
    (h : Q (.bool (resO .LtE (cmpP (x1, x2) (y1, y2)))) s) : wpAny (model prog w) A (richCompare .LtE (.ref a) (.ref b)) Q E s := by
  refine wpAny_richCompare_same_room ha.typeIs hb.typeIs PySem.F.slot_tuple_le (wpAny_call_entry PySem.F.slot_tuple_le ha.typeIs PySem.F.entry_tuple_le ?_ (PySem.F.args_tuple_le_2 _ _)) hu
  show wpAny _ _ (slotArgs "__le__" 1 ⟨[.ref a, .ref b], []⟩ >>= _) _ _ _
  refine wpAny_bind (wpAny_pure ?_)
  dsimp only
  refine wpAny_bind (wpAny_isInstance (T := "tuple") (b := true) hb.typeIs sub_tt ?_)
  rw [if_neg (by simp)]
  refine wpAny_bind (tupleItemsOf_ ha (wpAny_bind (tupleItemsOf_ hb ?_)))
  show wpAny _ _ (forIn [(Value.int x1 t1, Value.int y1 u1), (.int x2 t2, .int y2 u2)] _ _ >>= _) _ _ _
  rw [List.forIn_cons]
  refine wpAny_bind (wpAny_bind (wpAny_bind (wpAny_eqBool_int ?_)))
  unfold cmpP at h
  cases e : x1 == y1 with
  | false =>
    have hne : ci x1 y1 ≠ .eq := fun q => by have := (ci_dec x1 y1).1; rw [q, e] at this; cases this
    dsimp only at h
    rw [then_ne hne] at h
    rw [if_pos (by rfl : (!false) = true)]
    rw [(ci_dec x1 y1).2.2.2.1] at h
    refine wpAny_bind (wpAny_rule (wpAny_bind ?_))
    show wpAny _ _ (compareOp .LtE (.int x1 t1) (.int y1 u1)) _ _ _
    refine P.le_int (wpAny_bind (wpAny_pure (wpAny_pure (wpAny_pure (wpAny_pure ⟨_, rfl, nofun, h⟩)))))
  | true =>
    have h1 : x1 = y1 := beq_iff_eq.mp e
    subst h1
    rw [if_neg (by decide)]
    refine wpAny_pure ?_
    dsimp only at h ⊢
    rw [ci_eq] at h
    replace h : Q (.bool (resO .LtE (ci x2 y2))) s := h
    rw [List.forIn_cons]
    refine wpAny_bind (wpAny_bind (wpAny_eqBool_int ?_))
    cases e2 : x2 == y2 with
    | false =>
      have hne : ci x2 y2 ≠ .eq := fun q => by have := (ci_dec x2 y2).1; rw [q, e2] at this; cases this
      rw [if_pos (by rfl : (!false) = true)]
      rw [(ci_dec x2 y2).2.2.2.1] at h
      refine wpAny_bind (wpAny_rule (wpAny_bind ?_))
      show wpAny _ _ (compareOp .LtE (.int x2 t2) (.int y2 u2)) _ _ _
      refine P.le_int (wpAny_bind (wpAny_pure (wpAny_pure (wpAny_pure (wpAny_pure ⟨_, rfl, nofun, h⟩)))))
    | true =>
      have h2 : x2 = y2 := beq_iff_eq.mp e2
      subst h2
      rw [ci_eq] at h
      rw [if_neg (by decide)]
      refine wpAny_pure ?_
      dsimp only
      rw [List.forIn_nil]
      exact wpAny_pure (wpAny_pure ⟨_, rfl, nofun, h⟩)
theorem tup_Eq {a b : Addr} {x1 x2 y1 y2 : Int} {t1 t2 u1 u2 : Tok} (ha : IsTup s.heap a #[.int x1 t1, .int x2 t2]) (hb : IsTup s.heap b #[.int y1 u1, .int y2 u2]) (hu : A.units < cLine)
    (h : Q (.bool (resO .Eq (cmpP (x1, x2) (y1, y2)))) s) : wpAny (model prog w) A (richCompare .Eq (.ref a) (.ref b)) Q E s := by
  refine wpAny_richCompare_same_room ha.typeIs hb.typeIs PySem.F.slot_tuple_eq (wpAny_call_entry PySem.F.slot_tuple_eq ha.typeIs PySem.F.entry_tuple_eq ?_ (PySem.F.args_tuple_eq_2 _ _)) hu
  show wpAny _ _ (slotArgs "__eq__" 1 ⟨[.ref a, .ref b], []⟩ >>= _) _ _ _
  refine wpAny_bind (wpAny_pure ?_)
  dsimp only
  refine wpAny_bind (wpAny_isInstance (T := "tuple") (b := true) hb.typeIs sub_tt ?_)
  rw [if_neg (by simp)]
  refine wpAny_bind (tupleItemsOf_ ha (wpAny_bind (tupleItemsOf_ hb ?_)))
  show wpAny _ _ (forIn [(Value.int x1 t1, Value.int y1 u1), (.int x2 t2, .int y2 u2)] _ _ >>= _) _ _ _
  rw [List.forIn_cons]
  refine wpAny_bind (wpAny_bind (wpAny_bind (wpAny_eqBool_int ?_)))
  unfold cmpP at h
  cases e : x1 == y1 with
  | false =>
    have hne : ci x1 y1 ≠ .eq := fun q => by have := (ci_dec x1 y1).1; rw [q, e] at this; cases this
    dsimp only at h
    rw [then_ne hne] at h
    rw [if_pos (by rfl : (!false) = true)]
    refine wpAny_bind (wpAny_pure (wpAny_pure (wpAny_pure (wpAny_pure ⟨_, rfl, nofun, by rw [(by cases q : ci x1 y1 <;> first | rfl | exact absurd q hne : resO .Eq (ci x1 y1) = false)] at h; exact h⟩))))
  | true =>
    have h1 : x1 = y1 := beq_iff_eq.mp e
    subst h1
    rw [if_neg (by decide)]
    refine wpAny_pure ?_
    dsimp only at h ⊢
    rw [ci_eq] at h
    replace h : Q (.bool (resO .Eq (ci x2 y2))) s := h
    rw [List.forIn_cons]
    refine wpAny_bind (wpAny_bind (wpAny_eqBool_int ?_))
    cases e2 : x2 == y2 with
    | false =>
      have hne : ci x2 y2 ≠ .eq := fun q => by have := (ci_dec x2 y2).1; rw [q, e2] at this; cases this
      rw [if_pos (by rfl : (!false) = true)]
      refine wpAny_bind (wpAny_pure (wpAny_pure (wpAny_pure (wpAny_pure ⟨_, rfl, nofun, by rw [(by cases q : ci x2 y2 <;> first | rfl | exact absurd q hne : resO .Eq (ci x2 y2) = false)] at h; exact h⟩))))
    | true =>
      have h2 : x2 = y2 := beq_iff_eq.mp e2
      subst h2
      rw [ci_eq] at h
      rw [if_neg (by decide)]
      refine wpAny_pure ?_
      dsimp only
      rw [List.forIn_nil]
      exact wpAny_pure (wpAny_pure ⟨_, rfl, nofun, h⟩)
theorem tup_Gt {a b : Addr} {x1 x2 y1 y2 : Int} {t1 t2 u1 u2 : Tok} (ha : IsTup s.heap a #[.int x1 t1, .int x2 t2]) (hb : IsTup s.heap b #[.int y1 u1, .int y2 u2]) (hu : A.units < cLine)
    (h : Q (.bool (resO .Gt (cmpP (x1, x2) (y1, y2)))) s) : wpAny (model prog w) A (richCompare .Gt (.ref a) (.ref b)) Q E s := by
  refine wpAny_richCompare_same_room ha.typeIs hb.typeIs PySem.F.slot_tuple_gt (wpAny_call_entry PySem.F.slot_tuple_gt ha.typeIs PySem.F.entry_tuple_gt ?_ (PySem.F.args_tuple_gt_2 _ _)) hu
  show wpAny _ _ (slotArgs "__gt__" 1 ⟨[.ref a, .ref b], []⟩ >>= _) _ _ _
  refine wpAny_bind (wpAny_pure ?_)
  dsimp only
  refine wpAny_bind (wpAny_isInstance (T := "tuple") (b := true) hb.typeIs sub_tt ?_)
  rw [if_neg (by simp)]
  refine wpAny_bind (tupleItemsOf_ ha (wpAny_bind (tupleItemsOf_ hb ?_)))
  show wpAny _ _ (forIn [(Value.int x1 t1, Value.int y1 u1), (.int x2 t2, .int y2 u2)] _ _ >>= _) _ _ _
  rw [List.forIn_cons]
  refine wpAny_bind (wpAny_bind (wpAny_bind (wpAny_eqBool_int ?_)))
  unfold cmpP at h
  cases e : x1 == y1 with
  | false =>
    have hne : ci x1 y1 ≠ .eq := fun q => by have := (ci_dec x1 y1).1; rw [q, e] at this; cases this
    dsimp only at h
    rw [then_ne hne] at h
    rw [if_pos (by rfl : (!false) = true)]
    rw [(ci_dec x1 y1).2.2.2.2.1] at h
    refine wpAny_bind (wpAny_rule (wpAny_bind ?_))
    show wpAny _ _ (compareOp .Gt (.int x1 t1) (.int y1 u1)) _ _ _
    refine P.gt_int (wpAny_bind (wpAny_pure (wpAny_pure (wpAny_pure (wpAny_pure ⟨_, rfl, nofun, h⟩)))))
  | true =>
    have h1 : x1 = y1 := beq_iff_eq.mp e
    subst h1
    rw [if_neg (by decide)]
    refine wpAny_pure ?_
    dsimp only at h ⊢
    rw [ci_eq] at h
    replace h : Q (.bool (resO .Gt (ci x2 y2))) s := h
    rw [List.forIn_cons]
    refine wpAny_bind (wpAny_bind (wpAny_eqBool_int ?_))
    cases e2 : x2 == y2 with
    | false =>
      have hne : ci x2 y2 ≠ .eq := fun q => by have := (ci_dec x2 y2).1; rw [q, e2] at this; cases this
      rw [if_pos (by rfl : (!false) = true)]
      rw [(ci_dec x2 y2).2.2.2.2.1] at h
      refine wpAny_bind (wpAny_rule (wpAny_bind ?_))
      show wpAny _ _ (compareOp .Gt (.int x2 t2) (.int y2 u2)) _ _ _
      refine P.gt_int (wpAny_bind (wpAny_pure (wpAny_pure (wpAny_pure (wpAny_pure ⟨_, rfl, nofun, h⟩)))))
    | true =>
      have h2 : x2 = y2 := beq_iff_eq.mp e2
      subst h2
      rw [ci_eq] at h
      rw [if_neg (by decide)]
      refine wpAny_pure ?_
      dsimp only
      rw [List.forIn_nil]
      exact wpAny_pure (wpAny_pure ⟨_, rfl, nofun, h⟩)
theorem tup_GtE {a b : Addr} {x1 x2 y1 y2 : Int} {t1 t2 u1 u2 : Tok} (ha : IsTup s.heap a #[.int x1 t1, .int x2 t2]) (hb : IsTup s.heap b #[.int y1 u1, .int y2 u2]) (hu : A.units < cLine)
    (h : Q (.bool (resO .GtE (cmpP (x1, x2) (y1, y2)))) s) : wpAny (model prog w) A (richCompare .GtE (.ref a) (.ref b)) Q E s := by
  refine wpAny_richCompare_same_room ha.typeIs hb.typeIs PySem.F.slot_tuple_ge (wpAny_call_entry PySem.F.slot_tuple_ge ha.typeIs PySem.F.entry_tuple_ge ?_ (PySem.F.args_tuple_ge_2 _ _)) hu
  show wpAny _ _ (slotArgs "__ge__" 1 ⟨[.ref a, .ref b], []⟩ >>= _) _ _ _
  refine wpAny_bind (wpAny_pure ?_)
  dsimp only
  refine wpAny_bind (wpAny_isInstance (T := "tuple") (b := true) hb.typeIs sub_tt ?_)
  rw [if_neg (by simp)]
  refine wpAny_bind (tupleItemsOf_ ha (wpAny_bind (tupleItemsOf_ hb ?_)))
  show wpAny _ _ (forIn [(Value.int x1 t1, Value.int y1 u1), (.int x2 t2, .int y2 u2)] _ _ >>= _) _ _ _
  rw [List.forIn_cons]
  refine wpAny_bind (wpAny_bind (wpAny_bind (wpAny_eqBool_int ?_)))
  unfold cmpP at h
  cases e : x1 == y1 with
  | false =>
    have hne : ci x1 y1 ≠ .eq := fun q => by have := (ci_dec x1 y1).1; rw [q, e] at this; cases this
    dsimp only at h
    rw [then_ne hne] at h
    rw [if_pos (by rfl : (!false) = true)]
    rw [(ci_dec x1 y1).2.2.2.2.2] at h
    refine wpAny_bind (wpAny_rule (wpAny_bind ?_))
    show wpAny _ _ (compareOp .GtE (.int x1 t1) (.int y1 u1)) _ _ _
    refine P.ge_int (wpAny_bind (wpAny_pure (wpAny_pure (wpAny_pure (wpAny_pure ⟨_, rfl, nofun, h⟩)))))
  | true =>
    have h1 : x1 = y1 := beq_iff_eq.mp e
    subst h1
    rw [if_neg (by decide)]
    refine wpAny_pure ?_
    dsimp only at h ⊢
    rw [ci_eq] at h
    replace h : Q (.bool (resO .GtE (ci x2 y2))) s := h
    rw [List.forIn_cons]
    refine wpAny_bind (wpAny_bind (wpAny_eqBool_int ?_))
    cases e2 : x2 == y2 with
    | false =>
      have hne : ci x2 y2 ≠ .eq := fun q => by have := (ci_dec x2 y2).1; rw [q, e2] at this; cases this
      rw [if_pos (by rfl : (!false) = true)]
      rw [(ci_dec x2 y2).2.2.2.2.2] at h
      refine wpAny_bind (wpAny_rule (wpAny_bind ?_))
      show wpAny _ _ (compareOp .GtE (.int x2 t2) (.int y2 u2)) _ _ _
      refine P.ge_int (wpAny_bind (wpAny_pure (wpAny_pure (wpAny_pure (wpAny_pure ⟨_, rfl, nofun, h⟩)))))
    | true =>
      have h2 : x2 = y2 := beq_iff_eq.mp e2
      subst h2
      rw [ci_eq] at h
      rw [if_neg (by decide)]
      refine wpAny_pure ?_
      dsimp only
      rw [List.forIn_nil]
      exact wpAny_pure (wpAny_pure ⟨_, rfl, nofun, h⟩)
theorem eqB_tup {a b : Addr} {x1 x2 y1 y2 : Int} {t1 t2 u1 u2 : Tok} {Q : Bool → Shared → Prop} (ha : IsTup s.heap a #[.int x1 t1, .int x2 t2]) (hb : IsTup s.heap b #[.int y1 u1, .int y2 u2]) (hu : A.units < cLine)
    (h : Q (resO .Eq (cmpP (x1, x2) (y1, y2))) s) : wpAny (model prog w) A (eqBool (.ref a) (.ref b)) Q E s := by
  unfold eqBool
  refine wpAny_holding ?_
  show wpAny _ _ (if (Value.ref a == Value.ref b) = true then _ else _) Q E s
  by_cases hab : (Value.ref a == Value.ref b) = true
  · rw [if_pos hab]
    have e : a = b := by have := eq_of_beq hab; injection this
    subst e
    obtain ⟨o, e1, _, n, d1⟩ := ha
    obtain ⟨o', e2, _, n', d2⟩ := hb
    rw [e1] at e2
    cases e2
    rw [d1] at d2
    simp only [Data.seq.injEq, Array.mk.injEq, List.cons.injEq, Value.int.injEq] at d2
    obtain ⟨⟨⟨rfl, _⟩, ⟨rfl, _⟩, _⟩, _⟩ := d2
    have e : cmpP (x1, x2) (x1, x2) = .eq := by unfold cmpP; rw [ci_eq, ci_eq]; rfl
    rw [e] at h
    exact wpAny_bind (wpAny_rule (wpAny_pure h))
  · rw [if_neg hab]
    exact wpAny_bind (tup_Eq ha hb hu (wpAny_truthy_bool h))
theorem cmpP_eq {p q : Int × Int} : resO .Eq (cmpP p q) = true → cmpP p q = .eq := fun h => by
  cases e : cmpP p q <;> rw [e] at h <;> first | rfl | cases h
theorem row_at {h : Heap} {ys : List Value} {i : Nat} {p : Int × Int} {rs : List (Int × Int)} (x : RowIs h (ys.drop i) (p :: rs)) : ∃ T ta tb, ys[i]? = some (.ref T) ∧ IsTup h T #[.int p.1 ta, .int p.2 tb] ∧ RowIs h (ys.drop (i + 1)) rs ∧ i < ys.length := by
  generalize e : ys.drop i = zs at x
  cases x with
  | cons q r =>
    obtain ⟨T, ta, tb, rfl, eo⟩ := q
    have hl : i < ys.length := by
      by_cases g : i < ys.length
      · exact g
      · rw [List.drop_eq_nil_of_le (by lia)] at e; cases e
    rw [List.drop_eq_getElem_cons hl] at e
    injection e with e1 e2
    refine ⟨T, ta, tb, by rw [List.getElem?_eq_getElem hl, e1], ⟨_, eo, rfl, _, rfl⟩, by rw [e2]; exact r, hl⟩
theorem row_end {h : Heap} {ys : List Value} {i : Nat} (x : RowIs h (ys.drop i) []) : ys.length ≤ i := by
  have := x.length
  rw [List.length_drop, List.length_nil] at this
  lia
theorem rloop_Lt {a b : Addr} {ys1 ys2 : List Value} {R : Result → Shared → Prop} : ∀ (r1 r2 : List (Int × Int)) (i : Nat), A.units + 2 < cLine → s.heap.get? a = some (lst ys1) → s.heap.get? b = some (lst ys2) → RowIs s.heap (ys1.drop i) r1 → RowIs s.heap (ys2.drop i) r2 → i ≤ ys1.length → i ≤ ys2.length →
    R (.ok (.ret (.bool (resO .Lt (cmpR r1 r2))))) s → codeAny (model prog w) A (.builtin "list.__eq__.loop" ⟨[.ref a, .ref b, rawInt (i : Nat), rawInt 0], []⟩) R s := by
  intro r1
  induction r1 with
  | nil =>
    intro r2 i hu ha hb h1 h2 l1 l2 hR
    have g1 := row_end h1
    refine codeAny_builtin PySem.MeetsSeq3.entry_eq_loop ?_
    rw [Around.under_plainId PySem.MeetsSeq3.plain_eq_loop _]
    show wpAny _ A.in1 (Builtin.List.listItems (.ref a) >>= _) _ _ s
    refine wpAny_bind (listItems_at ha rfl (wpAny_bind (listItems_at hb rfl ?_)))
    have e1 : ys1.toArray[((i : Nat) : Int).toNat]? = none := by simp; lia
    rw [e1]
    refine wpAny_bind (listItems_at ha rfl (wpAny_bind (listItems_at hb rfl (wpAny_pure ?_))))
    have z1 : ys1.toArray.size = i := by rw [List.size_toArray]; lia
    cases r2 with
    | nil =>
      have g2 := row_end h2
      have z2 : ys2.toArray.size = i := by rw [List.size_toArray]; lia
      rw [z1, z2]
      have e : resO .Lt (cmpR [] []) = decide (i < i) := by simp [resO, cmpR]
      rw [e] at hR; exact hR
    | cons p2 r2 =>
      obtain ⟨_, _, _, _, _, _, g2⟩ := row_at h2
      have z2 : i < ys2.toArray.size := by rw [List.size_toArray]; lia
      generalize ys2.toArray.size = k at z2 ⊢
      rw [z1]
      have e : resO .Lt (cmpR [] (p2 :: r2)) = decide (i < k) := by simp [resO, cmpR, bne, show ¬ i = k by lia, show ¬ k = i by lia, show i ≤ k by lia, show ¬ k ≤ i by lia, show i < k by lia, show ¬ k < i by lia]
      rw [e] at hR; exact hR
  | cons p r1 ih =>
    intro r2 i hu ha hb h1 h2 l1 l2 hR
    obtain ⟨T, ta, tb, e1, q1, h1', g1⟩ := row_at h1
    refine codeAny_builtin PySem.MeetsSeq3.entry_eq_loop ?_
    rw [Around.under_plainId PySem.MeetsSeq3.plain_eq_loop _]
    show wpAny _ A.in1 (Builtin.List.listItems (.ref a) >>= _) _ _ s
    refine wpAny_bind (listItems_at ha rfl (wpAny_bind (listItems_at hb rfl ?_)))
    have e1' : ys1.toArray[((i : Nat) : Int).toNat]? = some (.ref T) := by simpa using e1
    cases r2 with
    | nil =>
      have g2 := row_end h2
      have e2 : ys2.toArray[((i : Nat) : Int).toNat]? = none := by simp; lia
      rw [e1', e2]
      refine wpAny_bind (listItems_at ha rfl (wpAny_bind (listItems_at hb rfl (wpAny_pure ?_))))
      have z2 : ys2.toArray.size = i := by rw [List.size_toArray]; lia
      have z1 : i < ys1.toArray.size := by rw [List.size_toArray]; lia
      generalize ys1.toArray.size = k at z1 ⊢
      rw [z2]
      have e : resO .Lt (cmpR (p :: r1) []) = decide (k < i) := by simp [resO, cmpR, bne, show ¬ i = k by lia, show ¬ k = i by lia, show i ≤ k by lia, show ¬ k ≤ i by lia, show i < k by lia, show ¬ k < i by lia]
      rw [e] at hR; exact hR
    | cons p2 r2 =>
      obtain ⟨T2, tc, td, e2, q2, h2', g2⟩ := row_at h2
      have e2' : ys2.toArray[((i : Nat) : Int).toNat]? = some (.ref T2) := by simpa using e2
      rw [e1', e2']
      dsimp only
      refine wpAny_bind (eqB_tup q1 q2 (by show A.units + 1 < cLine; lia) ?_)
      by_cases g : resO .Eq (cmpP p p2) = true
      · have hz := cmpP_eq g
        rw [show cmpR (p :: r1) (p2 :: r2) = (cmpP p p2).then (cmpR r1 r2) from rfl, hz] at hR
        rw [show resO .Eq (cmpP (p.1, p.2) (p2.1, p2.2)) = true from g, if_pos rfl]
        have hc : (((i : Nat) : Int) + 1) = ((i + 1 : Nat) : Int) := by lia
        refine wpAny_bind (wpAny_pure (wpAny_pure ?_))
        show _ ∧ codeAny _ _ (.builtin "list.__eq__.loop" ⟨[.ref a, .ref b, rawInt (((i : Nat) : Int) + 1), rawInt 0], []⟩) _ _
        rw [hc]
        exact ⟨plainId_quiet PySem.MeetsSeq3.plain_eq_loop _, ih r2 (i + 1) hu ha hb h1' h2' (by lia) (by lia) hR⟩
      · have hne : cmpP p p2 ≠ .eq := fun q => g (by rw [q]; rfl)
        rw [show cmpR (p :: r1) (p2 :: r2) = (cmpP p p2).then (cmpR r1 r2) from rfl, then_ne hne] at hR
        rw [show resO .Eq (cmpP (p.1, p.2) (p2.1, p2.2)) = false from by simpa using g, if_neg Bool.false_ne_true]
        refine wpAny_bind (listItems_at ha rfl (wpAny_bind (listItems_at hb rfl ?_)))
        rw [e1', e2']
        dsimp only
        exact wpAny_bind (tup_Lt q1 q2 (by show A.units + 1 < cLine; lia) (wpAny_pure hR))
theorem rloop_LtE {a b : Addr} {ys1 ys2 : List Value} {R : Result → Shared → Prop} : ∀ (r1 r2 : List (Int × Int)) (i : Nat), A.units + 2 < cLine → s.heap.get? a = some (lst ys1) → s.heap.get? b = some (lst ys2) → RowIs s.heap (ys1.drop i) r1 → RowIs s.heap (ys2.drop i) r2 → i ≤ ys1.length → i ≤ ys2.length →
    R (.ok (.ret (.bool (resO .LtE (cmpR r1 r2))))) s → codeAny (model prog w) A (.builtin "list.__eq__.loop" ⟨[.ref a, .ref b, rawInt (i : Nat), rawInt 1], []⟩) R s := by
  intro r1
  induction r1 with
  | nil =>
    intro r2 i hu ha hb h1 h2 l1 l2 hR
    have g1 := row_end h1
    refine codeAny_builtin PySem.MeetsSeq3.entry_eq_loop ?_
    rw [Around.under_plainId PySem.MeetsSeq3.plain_eq_loop _]
    show wpAny _ A.in1 (Builtin.List.listItems (.ref a) >>= _) _ _ s
    refine wpAny_bind (listItems_at ha rfl (wpAny_bind (listItems_at hb rfl ?_)))
    have e1 : ys1.toArray[((i : Nat) : Int).toNat]? = none := by simp; lia
    rw [e1]
    refine wpAny_bind (listItems_at ha rfl (wpAny_bind (listItems_at hb rfl (wpAny_pure ?_))))
    have z1 : ys1.toArray.size = i := by rw [List.size_toArray]; lia
    cases r2 with
    | nil =>
      have g2 := row_end h2
      have z2 : ys2.toArray.size = i := by rw [List.size_toArray]; lia
      rw [z1, z2]
      have e : resO .LtE (cmpR [] []) = decide (i ≤ i) := by simp [resO, cmpR]
      rw [e] at hR; exact hR
    | cons p2 r2 =>
      obtain ⟨_, _, _, _, _, _, g2⟩ := row_at h2
      have z2 : i < ys2.toArray.size := by rw [List.size_toArray]; lia
      generalize ys2.toArray.size = k at z2 ⊢
      rw [z1]
      have e : resO .LtE (cmpR [] (p2 :: r2)) = decide (i ≤ k) := by simp [resO, cmpR, bne, show ¬ i = k by lia, show ¬ k = i by lia, show i ≤ k by lia, show ¬ k ≤ i by lia, show i < k by lia, show ¬ k < i by lia]
      rw [e] at hR; exact hR
  | cons p r1 ih =>
    intro r2 i hu ha hb h1 h2 l1 l2 hR
    obtain ⟨T, ta, tb, e1, q1, h1', g1⟩ := row_at h1
    refine codeAny_builtin PySem.MeetsSeq3.entry_eq_loop ?_
    rw [Around.under_plainId PySem.MeetsSeq3.plain_eq_loop _]
    show wpAny _ A.in1 (Builtin.List.listItems (.ref a) >>= _) _ _ s
    refine wpAny_bind (listItems_at ha rfl (wpAny_bind (listItems_at hb rfl ?_)))
    have e1' : ys1.toArray[((i : Nat) : Int).toNat]? = some (.ref T) := by simpa using e1
    cases r2 with
    | nil =>
      have g2 := row_end h2
      have e2 : ys2.toArray[((i : Nat) : Int).toNat]? = none := by simp; lia
      rw [e1', e2]
      refine wpAny_bind (listItems_at ha rfl (wpAny_bind (listItems_at hb rfl (wpAny_pure ?_))))
      have z2 : ys2.toArray.size = i := by rw [List.size_toArray]; lia
      have z1 : i < ys1.toArray.size := by rw [List.size_toArray]; lia
      generalize ys1.toArray.size = k at z1 ⊢
      rw [z2]
      have e : resO .LtE (cmpR (p :: r1) []) = decide (k ≤ i) := by simp [resO, cmpR, bne, show ¬ i = k by lia, show ¬ k = i by lia, show i ≤ k by lia, show ¬ k ≤ i by lia, show i < k by lia, show ¬ k < i by lia]
      rw [e] at hR; exact hR
    | cons p2 r2 =>
      obtain ⟨T2, tc, td, e2, q2, h2', g2⟩ := row_at h2
      have e2' : ys2.toArray[((i : Nat) : Int).toNat]? = some (.ref T2) := by simpa using e2
      rw [e1', e2']
      dsimp only
      refine wpAny_bind (eqB_tup q1 q2 (by show A.units + 1 < cLine; lia) ?_)
      by_cases g : resO .Eq (cmpP p p2) = true
      · have hz := cmpP_eq g
        rw [show cmpR (p :: r1) (p2 :: r2) = (cmpP p p2).then (cmpR r1 r2) from rfl, hz] at hR
        rw [show resO .Eq (cmpP (p.1, p.2) (p2.1, p2.2)) = true from g, if_pos rfl]
        have hc : (((i : Nat) : Int) + 1) = ((i + 1 : Nat) : Int) := by lia
        refine wpAny_bind (wpAny_pure (wpAny_pure ?_))
        show _ ∧ codeAny _ _ (.builtin "list.__eq__.loop" ⟨[.ref a, .ref b, rawInt (((i : Nat) : Int) + 1), rawInt 1], []⟩) _ _
        rw [hc]
        exact ⟨plainId_quiet PySem.MeetsSeq3.plain_eq_loop _, ih r2 (i + 1) hu ha hb h1' h2' (by lia) (by lia) hR⟩
      · have hne : cmpP p p2 ≠ .eq := fun q => g (by rw [q]; rfl)
        rw [show cmpR (p :: r1) (p2 :: r2) = (cmpP p p2).then (cmpR r1 r2) from rfl, then_ne hne] at hR
        rw [show resO .Eq (cmpP (p.1, p.2) (p2.1, p2.2)) = false from by simpa using g, if_neg Bool.false_ne_true]
        refine wpAny_bind (listItems_at ha rfl (wpAny_bind (listItems_at hb rfl ?_)))
        rw [e1', e2']
        dsimp only
        exact wpAny_bind (tup_LtE q1 q2 (by show A.units + 1 < cLine; lia) (wpAny_pure hR))
theorem rloop_Eq {a b : Addr} {ys1 ys2 : List Value} {R : Result → Shared → Prop} : ∀ (r1 r2 : List (Int × Int)) (i : Nat), A.units + 2 < cLine → s.heap.get? a = some (lst ys1) → s.heap.get? b = some (lst ys2) → RowIs s.heap (ys1.drop i) r1 → RowIs s.heap (ys2.drop i) r2 → i ≤ ys1.length → i ≤ ys2.length →
    R (.ok (.ret (.bool (resO .Eq (cmpR r1 r2))))) s → codeAny (model prog w) A (.builtin "list.__eq__.loop" ⟨[.ref a, .ref b, rawInt (i : Nat), rawInt 2], []⟩) R s := by
  intro r1
  induction r1 with
  | nil =>
    intro r2 i hu ha hb h1 h2 l1 l2 hR
    have g1 := row_end h1
    refine codeAny_builtin PySem.MeetsSeq3.entry_eq_loop ?_
    rw [Around.under_plainId PySem.MeetsSeq3.plain_eq_loop _]
    show wpAny _ A.in1 (Builtin.List.listItems (.ref a) >>= _) _ _ s
    refine wpAny_bind (listItems_at ha rfl (wpAny_bind (listItems_at hb rfl ?_)))
    have e1 : ys1.toArray[((i : Nat) : Int).toNat]? = none := by simp; lia
    rw [e1]
    refine wpAny_bind (listItems_at ha rfl (wpAny_bind (listItems_at hb rfl (wpAny_pure ?_))))
    have z1 : ys1.toArray.size = i := by rw [List.size_toArray]; lia
    cases r2 with
    | nil =>
      have g2 := row_end h2
      have z2 : ys2.toArray.size = i := by rw [List.size_toArray]; lia
      rw [z1, z2]
      have e : resO .Eq (cmpR [] []) = (i == i) := by simp [resO, cmpR]
      rw [e] at hR; exact hR
    | cons p2 r2 =>
      obtain ⟨_, _, _, _, _, _, g2⟩ := row_at h2
      have z2 : i < ys2.toArray.size := by rw [List.size_toArray]; lia
      generalize ys2.toArray.size = k at z2 ⊢
      rw [z1]
      have e : resO .Eq (cmpR [] (p2 :: r2)) = (i == k) := by simp [resO, cmpR, bne, show ¬ i = k by lia, show ¬ k = i by lia, show i ≤ k by lia, show ¬ k ≤ i by lia, show i < k by lia, show ¬ k < i by lia]
      rw [e] at hR; exact hR
  | cons p r1 ih =>
    intro r2 i hu ha hb h1 h2 l1 l2 hR
    obtain ⟨T, ta, tb, e1, q1, h1', g1⟩ := row_at h1
    refine codeAny_builtin PySem.MeetsSeq3.entry_eq_loop ?_
    rw [Around.under_plainId PySem.MeetsSeq3.plain_eq_loop _]
    show wpAny _ A.in1 (Builtin.List.listItems (.ref a) >>= _) _ _ s
    refine wpAny_bind (listItems_at ha rfl (wpAny_bind (listItems_at hb rfl ?_)))
    have e1' : ys1.toArray[((i : Nat) : Int).toNat]? = some (.ref T) := by simpa using e1
    cases r2 with
    | nil =>
      have g2 := row_end h2
      have e2 : ys2.toArray[((i : Nat) : Int).toNat]? = none := by simp; lia
      rw [e1', e2]
      refine wpAny_bind (listItems_at ha rfl (wpAny_bind (listItems_at hb rfl (wpAny_pure ?_))))
      have z2 : ys2.toArray.size = i := by rw [List.size_toArray]; lia
      have z1 : i < ys1.toArray.size := by rw [List.size_toArray]; lia
      generalize ys1.toArray.size = k at z1 ⊢
      rw [z2]
      have e : resO .Eq (cmpR (p :: r1) []) = (k == i) := by simp [resO, cmpR, bne, show ¬ i = k by lia, show ¬ k = i by lia, show i ≤ k by lia, show ¬ k ≤ i by lia, show i < k by lia, show ¬ k < i by lia]
      rw [e] at hR; exact hR
    | cons p2 r2 =>
      obtain ⟨T2, tc, td, e2, q2, h2', g2⟩ := row_at h2
      have e2' : ys2.toArray[((i : Nat) : Int).toNat]? = some (.ref T2) := by simpa using e2
      rw [e1', e2']
      dsimp only
      refine wpAny_bind (eqB_tup q1 q2 (by show A.units + 1 < cLine; lia) ?_)
      by_cases g : resO .Eq (cmpP p p2) = true
      · have hz := cmpP_eq g
        rw [show cmpR (p :: r1) (p2 :: r2) = (cmpP p p2).then (cmpR r1 r2) from rfl, hz] at hR
        rw [show resO .Eq (cmpP (p.1, p.2) (p2.1, p2.2)) = true from g, if_pos rfl]
        have hc : (((i : Nat) : Int) + 1) = ((i + 1 : Nat) : Int) := by lia
        refine wpAny_bind (wpAny_pure (wpAny_pure ?_))
        show _ ∧ codeAny _ _ (.builtin "list.__eq__.loop" ⟨[.ref a, .ref b, rawInt (((i : Nat) : Int) + 1), rawInt 2], []⟩) _ _
        rw [hc]
        exact ⟨plainId_quiet PySem.MeetsSeq3.plain_eq_loop _, ih r2 (i + 1) hu ha hb h1' h2' (by lia) (by lia) hR⟩
      · have hne : cmpP p p2 ≠ .eq := fun q => g (by rw [q]; rfl)
        rw [show cmpR (p :: r1) (p2 :: r2) = (cmpP p p2).then (cmpR r1 r2) from rfl, then_ne hne] at hR
        rw [show resO .Eq (cmpP (p.1, p.2) (p2.1, p2.2)) = false from by simpa using g, if_neg Bool.false_ne_true]
        refine wpAny_bind (listItems_at ha rfl (wpAny_bind (listItems_at hb rfl ?_)))
        rw [e1', e2']
        dsimp only
        exact wpAny_pure (by rw [(by cases q : cmpP p p2 <;> first | rfl | exact absurd q hne : resO .Eq (cmpP p p2) = false)] at hR; exact hR)
theorem rloop_NotEq {a b : Addr} {ys1 ys2 : List Value} {R : Result → Shared → Prop} : ∀ (r1 r2 : List (Int × Int)) (i : Nat), A.units + 2 < cLine → s.heap.get? a = some (lst ys1) → s.heap.get? b = some (lst ys2) → RowIs s.heap (ys1.drop i) r1 → RowIs s.heap (ys2.drop i) r2 → i ≤ ys1.length → i ≤ ys2.length →
    R (.ok (.ret (.bool (resO .NotEq (cmpR r1 r2))))) s → codeAny (model prog w) A (.builtin "list.__eq__.loop" ⟨[.ref a, .ref b, rawInt (i : Nat), rawInt 3], []⟩) R s := by
  intro r1
  induction r1 with
  | nil =>
    intro r2 i hu ha hb h1 h2 l1 l2 hR
    have g1 := row_end h1
    refine codeAny_builtin PySem.MeetsSeq3.entry_eq_loop ?_
    rw [Around.under_plainId PySem.MeetsSeq3.plain_eq_loop _]
    show wpAny _ A.in1 (Builtin.List.listItems (.ref a) >>= _) _ _ s
    refine wpAny_bind (listItems_at ha rfl (wpAny_bind (listItems_at hb rfl ?_)))
    have e1 : ys1.toArray[((i : Nat) : Int).toNat]? = none := by simp; lia
    rw [e1]
    refine wpAny_bind (listItems_at ha rfl (wpAny_bind (listItems_at hb rfl (wpAny_pure ?_))))
    have z1 : ys1.toArray.size = i := by rw [List.size_toArray]; lia
    cases r2 with
    | nil =>
      have g2 := row_end h2
      have z2 : ys2.toArray.size = i := by rw [List.size_toArray]; lia
      rw [z1, z2]
      have e : resO .NotEq (cmpR [] []) = (i != i) := by simp [resO, cmpR]
      rw [e] at hR; exact hR
    | cons p2 r2 =>
      obtain ⟨_, _, _, _, _, _, g2⟩ := row_at h2
      have z2 : i < ys2.toArray.size := by rw [List.size_toArray]; lia
      generalize ys2.toArray.size = k at z2 ⊢
      rw [z1]
      have e : resO .NotEq (cmpR [] (p2 :: r2)) = (i != k) := by simp [resO, cmpR, bne, show ¬ i = k by lia, show ¬ k = i by lia, show i ≤ k by lia, show ¬ k ≤ i by lia, show i < k by lia, show ¬ k < i by lia]
      rw [e] at hR; exact hR
  | cons p r1 ih =>
    intro r2 i hu ha hb h1 h2 l1 l2 hR
    obtain ⟨T, ta, tb, e1, q1, h1', g1⟩ := row_at h1
    refine codeAny_builtin PySem.MeetsSeq3.entry_eq_loop ?_
    rw [Around.under_plainId PySem.MeetsSeq3.plain_eq_loop _]
    show wpAny _ A.in1 (Builtin.List.listItems (.ref a) >>= _) _ _ s
    refine wpAny_bind (listItems_at ha rfl (wpAny_bind (listItems_at hb rfl ?_)))
    have e1' : ys1.toArray[((i : Nat) : Int).toNat]? = some (.ref T) := by simpa using e1
    cases r2 with
    | nil =>
      have g2 := row_end h2
      have e2 : ys2.toArray[((i : Nat) : Int).toNat]? = none := by simp; lia
      rw [e1', e2]
      refine wpAny_bind (listItems_at ha rfl (wpAny_bind (listItems_at hb rfl (wpAny_pure ?_))))
      have z2 : ys2.toArray.size = i := by rw [List.size_toArray]; lia
      have z1 : i < ys1.toArray.size := by rw [List.size_toArray]; lia
      generalize ys1.toArray.size = k at z1 ⊢
      rw [z2]
      have e : resO .NotEq (cmpR (p :: r1) []) = (k != i) := by simp [resO, cmpR, bne, show ¬ i = k by lia, show ¬ k = i by lia, show i ≤ k by lia, show ¬ k ≤ i by lia, show i < k by lia, show ¬ k < i by lia]
      rw [e] at hR; exact hR
    | cons p2 r2 =>
      obtain ⟨T2, tc, td, e2, q2, h2', g2⟩ := row_at h2
      have e2' : ys2.toArray[((i : Nat) : Int).toNat]? = some (.ref T2) := by simpa using e2
      rw [e1', e2']
      dsimp only
      refine wpAny_bind (eqB_tup q1 q2 (by show A.units + 1 < cLine; lia) ?_)
      by_cases g : resO .Eq (cmpP p p2) = true
      · have hz := cmpP_eq g
        rw [show cmpR (p :: r1) (p2 :: r2) = (cmpP p p2).then (cmpR r1 r2) from rfl, hz] at hR
        rw [show resO .Eq (cmpP (p.1, p.2) (p2.1, p2.2)) = true from g, if_pos rfl]
        have hc : (((i : Nat) : Int) + 1) = ((i + 1 : Nat) : Int) := by lia
        refine wpAny_bind (wpAny_pure (wpAny_pure ?_))
        show _ ∧ codeAny _ _ (.builtin "list.__eq__.loop" ⟨[.ref a, .ref b, rawInt (((i : Nat) : Int) + 1), rawInt 3], []⟩) _ _
        rw [hc]
        exact ⟨plainId_quiet PySem.MeetsSeq3.plain_eq_loop _, ih r2 (i + 1) hu ha hb h1' h2' (by lia) (by lia) hR⟩
      · have hne : cmpP p p2 ≠ .eq := fun q => g (by rw [q]; rfl)
        rw [show cmpR (p :: r1) (p2 :: r2) = (cmpP p p2).then (cmpR r1 r2) from rfl, then_ne hne] at hR
        rw [show resO .Eq (cmpP (p.1, p.2) (p2.1, p2.2)) = false from by simpa using g, if_neg Bool.false_ne_true]
        refine wpAny_bind (listItems_at ha rfl (wpAny_bind (listItems_at hb rfl ?_)))
        rw [e1', e2']
        dsimp only
        exact wpAny_pure (by rw [(by cases q : cmpP p p2 <;> first | rfl | exact absurd q hne : resO .NotEq (cmpP p p2) = true)] at hR; exact hR)
theorem rloop_Gt {a b : Addr} {ys1 ys2 : List Value} {R : Result → Shared → Prop} : ∀ (r1 r2 : List (Int × Int)) (i : Nat), A.units + 2 < cLine → s.heap.get? a = some (lst ys1) → s.heap.get? b = some (lst ys2) → RowIs s.heap (ys1.drop i) r1 → RowIs s.heap (ys2.drop i) r2 → i ≤ ys1.length → i ≤ ys2.length →
    R (.ok (.ret (.bool (resO .Gt (cmpR r1 r2))))) s → codeAny (model prog w) A (.builtin "list.__eq__.loop" ⟨[.ref a, .ref b, rawInt (i : Nat), rawInt 4], []⟩) R s := by
  intro r1
  induction r1 with
  | nil =>
    intro r2 i hu ha hb h1 h2 l1 l2 hR
    have g1 := row_end h1
    refine codeAny_builtin PySem.MeetsSeq3.entry_eq_loop ?_
    rw [Around.under_plainId PySem.MeetsSeq3.plain_eq_loop _]
    show wpAny _ A.in1 (Builtin.List.listItems (.ref a) >>= _) _ _ s
    refine wpAny_bind (listItems_at ha rfl (wpAny_bind (listItems_at hb rfl ?_)))
    have e1 : ys1.toArray[((i : Nat) : Int).toNat]? = none := by simp; lia
    rw [e1]
    refine wpAny_bind (listItems_at ha rfl (wpAny_bind (listItems_at hb rfl (wpAny_pure ?_))))
    have z1 : ys1.toArray.size = i := by rw [List.size_toArray]; lia
    cases r2 with
    | nil =>
      have g2 := row_end h2
      have z2 : ys2.toArray.size = i := by rw [List.size_toArray]; lia
      rw [z1, z2]
      have e : resO .Gt (cmpR [] []) = decide (i > i) := by simp [resO, cmpR]
      rw [e] at hR; exact hR
    | cons p2 r2 =>
      obtain ⟨_, _, _, _, _, _, g2⟩ := row_at h2
      have z2 : i < ys2.toArray.size := by rw [List.size_toArray]; lia
      generalize ys2.toArray.size = k at z2 ⊢
      rw [z1]
      have e : resO .Gt (cmpR [] (p2 :: r2)) = decide (i > k) := by simp [resO, cmpR, bne, show ¬ i = k by lia, show ¬ k = i by lia, show i ≤ k by lia, show ¬ k ≤ i by lia, show i < k by lia, show ¬ k < i by lia]
      rw [e] at hR; exact hR
  | cons p r1 ih =>
    intro r2 i hu ha hb h1 h2 l1 l2 hR
    obtain ⟨T, ta, tb, e1, q1, h1', g1⟩ := row_at h1
    refine codeAny_builtin PySem.MeetsSeq3.entry_eq_loop ?_
    rw [Around.under_plainId PySem.MeetsSeq3.plain_eq_loop _]
    show wpAny _ A.in1 (Builtin.List.listItems (.ref a) >>= _) _ _ s
    refine wpAny_bind (listItems_at ha rfl (wpAny_bind (listItems_at hb rfl ?_)))
    have e1' : ys1.toArray[((i : Nat) : Int).toNat]? = some (.ref T) := by simpa using e1
    cases r2 with
    | nil =>
      have g2 := row_end h2
      have e2 : ys2.toArray[((i : Nat) : Int).toNat]? = none := by simp; lia
      rw [e1', e2]
      refine wpAny_bind (listItems_at ha rfl (wpAny_bind (listItems_at hb rfl (wpAny_pure ?_))))
      have z2 : ys2.toArray.size = i := by rw [List.size_toArray]; lia
      have z1 : i < ys1.toArray.size := by rw [List.size_toArray]; lia
      generalize ys1.toArray.size = k at z1 ⊢
      rw [z2]
      have e : resO .Gt (cmpR (p :: r1) []) = decide (k > i) := by simp [resO, cmpR, bne, show ¬ i = k by lia, show ¬ k = i by lia, show i ≤ k by lia, show ¬ k ≤ i by lia, show i < k by lia, show ¬ k < i by lia]
      rw [e] at hR; exact hR
    | cons p2 r2 =>
      obtain ⟨T2, tc, td, e2, q2, h2', g2⟩ := row_at h2
      have e2' : ys2.toArray[((i : Nat) : Int).toNat]? = some (.ref T2) := by simpa using e2
      rw [e1', e2']
      dsimp only
      refine wpAny_bind (eqB_tup q1 q2 (by show A.units + 1 < cLine; lia) ?_)
      by_cases g : resO .Eq (cmpP p p2) = true
      · have hz := cmpP_eq g
        rw [show cmpR (p :: r1) (p2 :: r2) = (cmpP p p2).then (cmpR r1 r2) from rfl, hz] at hR
        rw [show resO .Eq (cmpP (p.1, p.2) (p2.1, p2.2)) = true from g, if_pos rfl]
        have hc : (((i : Nat) : Int) + 1) = ((i + 1 : Nat) : Int) := by lia
        refine wpAny_bind (wpAny_pure (wpAny_pure ?_))
        show _ ∧ codeAny _ _ (.builtin "list.__eq__.loop" ⟨[.ref a, .ref b, rawInt (((i : Nat) : Int) + 1), rawInt 4], []⟩) _ _
        rw [hc]
        exact ⟨plainId_quiet PySem.MeetsSeq3.plain_eq_loop _, ih r2 (i + 1) hu ha hb h1' h2' (by lia) (by lia) hR⟩
      · have hne : cmpP p p2 ≠ .eq := fun q => g (by rw [q]; rfl)
        rw [show cmpR (p :: r1) (p2 :: r2) = (cmpP p p2).then (cmpR r1 r2) from rfl, then_ne hne] at hR
        rw [show resO .Eq (cmpP (p.1, p.2) (p2.1, p2.2)) = false from by simpa using g, if_neg Bool.false_ne_true]
        refine wpAny_bind (listItems_at ha rfl (wpAny_bind (listItems_at hb rfl ?_)))
        rw [e1', e2']
        dsimp only
        exact wpAny_bind (tup_Gt q1 q2 (by show A.units + 1 < cLine; lia) (wpAny_pure hR))
theorem rloop_GtE {a b : Addr} {ys1 ys2 : List Value} {R : Result → Shared → Prop} : ∀ (r1 r2 : List (Int × Int)) (i : Nat), A.units + 2 < cLine → s.heap.get? a = some (lst ys1) → s.heap.get? b = some (lst ys2) → RowIs s.heap (ys1.drop i) r1 → RowIs s.heap (ys2.drop i) r2 → i ≤ ys1.length → i ≤ ys2.length →
    R (.ok (.ret (.bool (resO .GtE (cmpR r1 r2))))) s → codeAny (model prog w) A (.builtin "list.__eq__.loop" ⟨[.ref a, .ref b, rawInt (i : Nat), rawInt 5], []⟩) R s := by
  intro r1
  induction r1 with
  | nil =>
    intro r2 i hu ha hb h1 h2 l1 l2 hR
    have g1 := row_end h1
    refine codeAny_builtin PySem.MeetsSeq3.entry_eq_loop ?_
    rw [Around.under_plainId PySem.MeetsSeq3.plain_eq_loop _]
    show wpAny _ A.in1 (Builtin.List.listItems (.ref a) >>= _) _ _ s
    refine wpAny_bind (listItems_at ha rfl (wpAny_bind (listItems_at hb rfl ?_)))
    have e1 : ys1.toArray[((i : Nat) : Int).toNat]? = none := by simp; lia
    rw [e1]
    refine wpAny_bind (listItems_at ha rfl (wpAny_bind (listItems_at hb rfl (wpAny_pure ?_))))
    have z1 : ys1.toArray.size = i := by rw [List.size_toArray]; lia
    cases r2 with
    | nil =>
      have g2 := row_end h2
      have z2 : ys2.toArray.size = i := by rw [List.size_toArray]; lia
      rw [z1, z2]
      have e : resO .GtE (cmpR [] []) = decide (i ≥ i) := by simp [resO, cmpR]
      rw [e] at hR; exact hR
    | cons p2 r2 =>
      obtain ⟨_, _, _, _, _, _, g2⟩ := row_at h2
      have z2 : i < ys2.toArray.size := by rw [List.size_toArray]; lia
      generalize ys2.toArray.size = k at z2 ⊢
      rw [z1]
      have e : resO .GtE (cmpR [] (p2 :: r2)) = decide (i ≥ k) := by simp [resO, cmpR, bne, show ¬ i = k by lia, show ¬ k = i by lia, show i ≤ k by lia, show ¬ k ≤ i by lia, show i < k by lia, show ¬ k < i by lia]
      rw [e] at hR; exact hR
  | cons p r1 ih =>
    intro r2 i hu ha hb h1 h2 l1 l2 hR
    obtain ⟨T, ta, tb, e1, q1, h1', g1⟩ := row_at h1
    refine codeAny_builtin PySem.MeetsSeq3.entry_eq_loop ?_
    rw [Around.under_plainId PySem.MeetsSeq3.plain_eq_loop _]
    show wpAny _ A.in1 (Builtin.List.listItems (.ref a) >>= _) _ _ s
    refine wpAny_bind (listItems_at ha rfl (wpAny_bind (listItems_at hb rfl ?_)))
    have e1' : ys1.toArray[((i : Nat) : Int).toNat]? = some (.ref T) := by simpa using e1
    cases r2 with
    | nil =>
      have g2 := row_end h2
      have e2 : ys2.toArray[((i : Nat) : Int).toNat]? = none := by simp; lia
      rw [e1', e2]
      refine wpAny_bind (listItems_at ha rfl (wpAny_bind (listItems_at hb rfl (wpAny_pure ?_))))
      have z2 : ys2.toArray.size = i := by rw [List.size_toArray]; lia
      have z1 : i < ys1.toArray.size := by rw [List.size_toArray]; lia
      generalize ys1.toArray.size = k at z1 ⊢
      rw [z2]
      have e : resO .GtE (cmpR (p :: r1) []) = decide (k ≥ i) := by simp [resO, cmpR, bne, show ¬ i = k by lia, show ¬ k = i by lia, show i ≤ k by lia, show ¬ k ≤ i by lia, show i < k by lia, show ¬ k < i by lia]
      rw [e] at hR; exact hR
    | cons p2 r2 =>
      obtain ⟨T2, tc, td, e2, q2, h2', g2⟩ := row_at h2
      have e2' : ys2.toArray[((i : Nat) : Int).toNat]? = some (.ref T2) := by simpa using e2
      rw [e1', e2']
      dsimp only
      refine wpAny_bind (eqB_tup q1 q2 (by show A.units + 1 < cLine; lia) ?_)
      by_cases g : resO .Eq (cmpP p p2) = true
      · have hz := cmpP_eq g
        rw [show cmpR (p :: r1) (p2 :: r2) = (cmpP p p2).then (cmpR r1 r2) from rfl, hz] at hR
        rw [show resO .Eq (cmpP (p.1, p.2) (p2.1, p2.2)) = true from g, if_pos rfl]
        have hc : (((i : Nat) : Int) + 1) = ((i + 1 : Nat) : Int) := by lia
        refine wpAny_bind (wpAny_pure (wpAny_pure ?_))
        show _ ∧ codeAny _ _ (.builtin "list.__eq__.loop" ⟨[.ref a, .ref b, rawInt (((i : Nat) : Int) + 1), rawInt 5], []⟩) _ _
        rw [hc]
        exact ⟨plainId_quiet PySem.MeetsSeq3.plain_eq_loop _, ih r2 (i + 1) hu ha hb h1' h2' (by lia) (by lia) hR⟩
      · have hne : cmpP p p2 ≠ .eq := fun q => g (by rw [q]; rfl)
        rw [show cmpR (p :: r1) (p2 :: r2) = (cmpP p p2).then (cmpR r1 r2) from rfl, then_ne hne] at hR
        rw [show resO .Eq (cmpP (p.1, p.2) (p2.1, p2.2)) = false from by simpa using g, if_neg Bool.false_ne_true]
        refine wpAny_bind (listItems_at ha rfl (wpAny_bind (listItems_at hb rfl ?_)))
        rw [e1', e2']
        dsimp only
        exact wpAny_bind (tup_GtE q1 q2 (by show A.units + 1 < cLine; lia) (wpAny_pure hR))
theorem cmpR_len : ∀ {r1 r2 : List (Int × Int)}, cmpR r1 r2 = .eq → r1.length = r2.length
  | [], [], _ => rfl
  | [], _ :: _, h => by cases h
  | _ :: _, [], h => by cases h
  | p :: r1, q :: r2, h => by
    have h' : (cmpP p q).then (cmpR r1 r2) = .eq := h
    have : cmpR r1 r2 = .eq := by
      cases e : cmpP p q <;> rw [e] at h' <;> first | exact h' | cases h'
    simp [cmpR_len this]
theorem row_Lt {a b : Addr} {r1 r2 : List (Int × Int)} (ha : RowAt s.heap a r1) (hb : RowAt s.heap b r2) (hu : A.units + 3 < cLine) (h : Q (.bool (resO .Lt (cmpR r1 r2))) s) : wpAny (model prog w) A (compareOp .Lt (.ref a) (.ref b)) Q E s := by
  obtain ⟨ys1, ha, h1⟩ := ha
  obtain ⟨ys2, hb, h2⟩ := hb
  have la := (lst_list ha).typeIs
  have lb := (lst_list hb).typeIs
  show wpAny _ _ (richCompare .Lt (.ref a) (.ref b)) _ _ _
  refine wpAny_richCompare_same_room la lb PySem.F.slot_list_lt (wpAny_call (codeAny_call_builtin PySem.F.slot_list_lt.plain PySem.F.entry_list_lt (PySem.F.slot_list_lt.check _ _ _ _ _ _ _ _ la (PySem.F.args_list_lt_2 _ _) ?_))) (by lia)
  show wpAny _ _ (slotArgs "__lt__" 1 ⟨[.ref a, .ref b], []⟩ >>= _) _ _ _
  refine wpAny_bind (wpAny_pure ?_)
  dsimp only
  refine wpAny_bind (wpAny_isInstance (T := "list") (b := true) lb sub_ll ?_)
  rw [if_neg (by simp)]
  rw [if_neg (by decide)]
  exact wpAny_pure ⟨plainId_quiet PySem.MeetsSeq3.plain_eq_loop _, rloop_Lt r1 r2 0 (by show A.units + 2 < cLine; lia) ha hb h1 h2 (Nat.zero_le _) (Nat.zero_le _) ⟨nofun, h⟩⟩
theorem row_LtE {a b : Addr} {r1 r2 : List (Int × Int)} (ha : RowAt s.heap a r1) (hb : RowAt s.heap b r2) (hu : A.units + 3 < cLine) (h : Q (.bool (resO .LtE (cmpR r1 r2))) s) : wpAny (model prog w) A (compareOp .LtE (.ref a) (.ref b)) Q E s := by
  obtain ⟨ys1, ha, h1⟩ := ha
  obtain ⟨ys2, hb, h2⟩ := hb
  have la := (lst_list ha).typeIs
  have lb := (lst_list hb).typeIs
  show wpAny _ _ (richCompare .LtE (.ref a) (.ref b)) _ _ _
  refine wpAny_richCompare_same_room la lb PySem.F.slot_list_le (wpAny_call (codeAny_call_builtin PySem.F.slot_list_le.plain PySem.F.entry_list_le (PySem.F.slot_list_le.check _ _ _ _ _ _ _ _ la (PySem.F.args_list_le_2 _ _) ?_))) (by lia)
  show wpAny _ _ (slotArgs "__le__" 1 ⟨[.ref a, .ref b], []⟩ >>= _) _ _ _
  refine wpAny_bind (wpAny_pure ?_)
  dsimp only
  refine wpAny_bind (wpAny_isInstance (T := "list") (b := true) lb sub_ll ?_)
  rw [if_neg (by simp)]
  rw [if_neg (by decide)]
  exact wpAny_pure ⟨plainId_quiet PySem.MeetsSeq3.plain_eq_loop _, rloop_LtE r1 r2 0 (by show A.units + 2 < cLine; lia) ha hb h1 h2 (Nat.zero_le _) (Nat.zero_le _) ⟨nofun, h⟩⟩
theorem row_Eq {a b : Addr} {r1 r2 : List (Int × Int)} (ha : RowAt s.heap a r1) (hb : RowAt s.heap b r2) (hu : A.units + 3 < cLine) (h : Q (.bool (resO .Eq (cmpR r1 r2))) s) : wpAny (model prog w) A (compareOp .Eq (.ref a) (.ref b)) Q E s := by
  obtain ⟨ys1, ha, h1⟩ := ha
  obtain ⟨ys2, hb, h2⟩ := hb
  have la := (lst_list ha).typeIs
  have lb := (lst_list hb).typeIs
  show wpAny _ _ (richCompare .Eq (.ref a) (.ref b)) _ _ _
  refine wpAny_richCompare_same_room la lb PySem.F.slot_list_eq (wpAny_call (codeAny_call_builtin PySem.F.slot_list_eq.plain PySem.F.entry_list_eq (PySem.F.slot_list_eq.check _ _ _ _ _ _ _ _ la (PySem.F.args_list_eq_2 _ _) ?_))) (by lia)
  show wpAny _ _ (slotArgs "__eq__" 1 ⟨[.ref a, .ref b], []⟩ >>= _) _ _ _
  refine wpAny_bind (wpAny_pure ?_)
  dsimp only
  refine wpAny_bind (wpAny_isInstance (T := "list") (b := true) lb sub_ll ?_)
  rw [if_neg (by simp)]
  rw [if_pos (by decide)]
  refine wpAny_bind (listItems_at ha rfl (wpAny_bind (listItems_at hb rfl ?_)))
  by_cases hz : (ys1.toArray.size != ys2.toArray.size) = true
  · rw [if_pos hz]
    have hne : cmpR r1 r2 ≠ .eq := fun q => by
      have := cmpR_len q
      rw [← h1.length, ← h2.length] at this
      simp [this] at hz
    refine wpAny_bind (wpAny_rule (wpAny_bind (wpAny_pure (wpAny_pure ?_))))
    refine ⟨nofun, ?_⟩
    rw [(by cases q : cmpR r1 r2 <;> first | rfl | exact absurd q hne : resO .Eq (cmpR r1 r2) = false)] at h
    exact h
  rw [if_neg hz]
  exact wpAny_pure ⟨plainId_quiet PySem.MeetsSeq3.plain_eq_loop _, rloop_Eq r1 r2 0 (by show A.units + 2 < cLine; lia) ha hb h1 h2 (Nat.zero_le _) (Nat.zero_le _) ⟨nofun, h⟩⟩
theorem row_NotEq {a b : Addr} {r1 r2 : List (Int × Int)} (ha : RowAt s.heap a r1) (hb : RowAt s.heap b r2) (hu : A.units + 3 < cLine) (h : Q (.bool (resO .NotEq (cmpR r1 r2))) s) : wpAny (model prog w) A (compareOp .NotEq (.ref a) (.ref b)) Q E s := by
  obtain ⟨ys1, ha, h1⟩ := ha
  obtain ⟨ys2, hb, h2⟩ := hb
  have la := (lst_list ha).typeIs
  have lb := (lst_list hb).typeIs
  show wpAny _ _ (richCompare .NotEq (.ref a) (.ref b)) _ _ _
  refine wpAny_richCompare_same_room la lb PySem.F.slot_list_ne (wpAny_call (codeAny_call_builtin PySem.F.slot_list_ne.plain PySem.F.entry_list_ne (PySem.F.slot_list_ne.check _ _ _ _ _ _ _ _ la (PySem.F.args_list_ne_2 _ _) ?_))) (by lia)
  show wpAny _ _ (slotArgs "__ne__" 1 ⟨[.ref a, .ref b], []⟩ >>= _) _ _ _
  refine wpAny_bind (wpAny_pure ?_)
  dsimp only
  refine wpAny_bind (wpAny_isInstance (T := "list") (b := true) lb sub_ll ?_)
  rw [if_neg (by simp)]
  rw [if_pos (by decide)]
  refine wpAny_bind (listItems_at ha rfl (wpAny_bind (listItems_at hb rfl ?_)))
  by_cases hz : (ys1.toArray.size != ys2.toArray.size) = true
  · rw [if_pos hz]
    have hne : cmpR r1 r2 ≠ .eq := fun q => by
      have := cmpR_len q
      rw [← h1.length, ← h2.length] at this
      simp [this] at hz
    refine wpAny_bind (wpAny_rule (wpAny_bind (wpAny_pure (wpAny_pure ?_))))
    refine ⟨nofun, ?_⟩
    rw [(by cases q : cmpR r1 r2 <;> first | rfl | exact absurd q hne : resO .NotEq (cmpR r1 r2) = true)] at h
    exact h
  rw [if_neg hz]
  exact wpAny_pure ⟨plainId_quiet PySem.MeetsSeq3.plain_eq_loop _, rloop_NotEq r1 r2 0 (by show A.units + 2 < cLine; lia) ha hb h1 h2 (Nat.zero_le _) (Nat.zero_le _) ⟨nofun, h⟩⟩
theorem row_Gt {a b : Addr} {r1 r2 : List (Int × Int)} (ha : RowAt s.heap a r1) (hb : RowAt s.heap b r2) (hu : A.units + 3 < cLine) (h : Q (.bool (resO .Gt (cmpR r1 r2))) s) : wpAny (model prog w) A (compareOp .Gt (.ref a) (.ref b)) Q E s := by
  obtain ⟨ys1, ha, h1⟩ := ha
  obtain ⟨ys2, hb, h2⟩ := hb
  have la := (lst_list ha).typeIs
  have lb := (lst_list hb).typeIs
  show wpAny _ _ (richCompare .Gt (.ref a) (.ref b)) _ _ _
  refine wpAny_richCompare_same_room la lb PySem.F.slot_list_gt (wpAny_call (codeAny_call_builtin PySem.F.slot_list_gt.plain PySem.F.entry_list_gt (PySem.F.slot_list_gt.check _ _ _ _ _ _ _ _ la (PySem.F.args_list_gt_2 _ _) ?_))) (by lia)
  show wpAny _ _ (slotArgs "__gt__" 1 ⟨[.ref a, .ref b], []⟩ >>= _) _ _ _
  refine wpAny_bind (wpAny_pure ?_)
  dsimp only
  refine wpAny_bind (wpAny_isInstance (T := "list") (b := true) lb sub_ll ?_)
  rw [if_neg (by simp)]
  rw [if_neg (by decide)]
  exact wpAny_pure ⟨plainId_quiet PySem.MeetsSeq3.plain_eq_loop _, rloop_Gt r1 r2 0 (by show A.units + 2 < cLine; lia) ha hb h1 h2 (Nat.zero_le _) (Nat.zero_le _) ⟨nofun, h⟩⟩
theorem row_GtE {a b : Addr} {r1 r2 : List (Int × Int)} (ha : RowAt s.heap a r1) (hb : RowAt s.heap b r2) (hu : A.units + 3 < cLine) (h : Q (.bool (resO .GtE (cmpR r1 r2))) s) : wpAny (model prog w) A (compareOp .GtE (.ref a) (.ref b)) Q E s := by
  obtain ⟨ys1, ha, h1⟩ := ha
  obtain ⟨ys2, hb, h2⟩ := hb
  have la := (lst_list ha).typeIs
  have lb := (lst_list hb).typeIs
  show wpAny _ _ (richCompare .GtE (.ref a) (.ref b)) _ _ _
  refine wpAny_richCompare_same_room la lb PySem.F.slot_list_ge (wpAny_call (codeAny_call_builtin PySem.F.slot_list_ge.plain PySem.F.entry_list_ge (PySem.F.slot_list_ge.check _ _ _ _ _ _ _ _ la (PySem.F.args_list_ge_2 _ _) ?_))) (by lia)
  show wpAny _ _ (slotArgs "__ge__" 1 ⟨[.ref a, .ref b], []⟩ >>= _) _ _ _
  refine wpAny_bind (wpAny_pure ?_)
  dsimp only
  refine wpAny_bind (wpAny_isInstance (T := "list") (b := true) lb sub_ll ?_)
  rw [if_neg (by simp)]
  rw [if_neg (by decide)]
  exact wpAny_pure ⟨plainId_quiet PySem.MeetsSeq3.plain_eq_loop _, rloop_GtE r1 r2 0 (by show A.units + 2 < cLine; lia) ha hb h1 h2 (Nat.zero_le _) (Nat.zero_le _) ⟨nofun, h⟩⟩
end
end
end Mine
namespace Mine
section
open PySem PySem.W PySem.W.X PyProof.Rows PySem.Spec PySem.Calls
set_option maxRecDepth 100000
set_option maxHeartbeats 0
set_option linter.unusedVariables false
set_option linter.unusedSimpArgs false
/-- no object at all -/
noncomputable def nilH (h : Heap) : Heap := { h with objs := #[] }
theorem nil_get (h : Heap) (b : Addr) : (nilH h).get? b = none := Heap.get?_none_of_le (Nat.zero_le _)
theorem fr0 {h h' : Heap} {L : Addr} {m : Str → Option Value} (n : h'.Ns L m) : Fr (nilH h) L h' m := ⟨n, (fun b o e => by rw [nil_get] at e; cases e), Nat.zero_le _⟩
/-- all of h but what lies at X -/
noncomputable def allBut (h : Heap) (X : List Addr) : List (Addr × Obj) := (List.range h.objs.size).filterMap fun b => if b ∈ X then none else (h.get? b).map fun o => (b, o)
theorem mem_allBut {h : Heap} {X : List Addr} {p : Addr × Obj} : p ∈ allBut h X ↔ p.1 ∉ X ∧ h.get? p.1 = some p.2 := by
  unfold allBut
  rw [List.mem_filterMap]
  constructor
  · rintro ⟨b, _, e⟩
    split at e
    · cases e
    · rename_i hx
      cases q : h.get? b with
      | none => rw [q] at e; cases e
      | some o => rw [q] at e; cases e; exact ⟨hx, q⟩
  · rintro ⟨hx, e⟩
    refine ⟨p.1, List.mem_range.mpr (Heap.lt_size e), ?_⟩
    rw [if_neg hx, e]; rfl
theorem news0 {h h' : Heap} {L : Addr} {news : List (Addr × Obj)} (k : ∀ p ∈ news, h'.get? p.1 = some p.2 ∧ p.1 ≠ L) : News (nilH h) L h' news := fun p hp => ⟨(k p hp).1, (k p hp).2, nil_get _ _⟩
/-- all but what lies at L stands -/
noncomputable abbrev KpB (L : Addr) (h h' : Heap) : Prop := ∀ b o, b ≠ L → h.get? b = some o → h'.get? b = some o
section
variable {prog : Program} {w : World} {A : Around} {E : Value → Shared → Prop} {s : Shared}
theorem collectR {Q : List Value → Shared → Prop} {r : Addr} {t1 t2 t3 : Tok} (hh : A.handled = none) (hr : IsRange s.heap r 0 7 1 t1 t2 t3)
    (h : ∀ h' tk (vs : List Value), Kp s.heap h' → vs.length = 7 → (∀ i v, vs[i]? = some v → ∃ t, v = Value.int (i : Nat) t) → Q vs { s with heap := h', toks := tk }) : wpAny (model prog w) A (collect (.ref r)) Q E s := by
  have hrl : r < s.heap.objs.size := Heap.lt_size hr
  have fin : ∀ h' tk acc' c' , (∀ b o, b ≠ s.heap.objs.size → (s.heap.push { cls := .type "list", data := .seq ([] : List Value).toArray }).get? b = some o → h'.get? b = some o) → h'.get? s.heap.objs.size = some { cls := .type "list", dict := none, data := .seq acc' c', slots := #[] } →
      ItemsOf (fun i v => ∃ t, v = Value.int (0 + (i : Nat) * 1) t) acc' 7 → wpAny (model prog w) A (load s.heap.objs.size >>= fun o => match o.data with | .seq xs _ => pure xs.toList | _ => unsupported "internal:collect") Q E { s with heap := h', toks := tk } := by
    intro h' tk acc' c' hk hS hacc
    refine wpAny_bind (wpAny_load hS (wpAny_pure (h h' tk _ (fun b o e => hk b o (Nat.ne_of_lt (Heap.lt_size e)) (Heap.get?_push_of_some _ e)) (by rw [Array.length_toList]; exact hacc.1) fun i v e => ?_)))
    obtain ⟨t, rfl⟩ := hacc.2 i v (by rw [← Array.getElem?_toList]; exact e)
    exact ⟨t, by rw [show (0 : Int) + (i : Nat) * 1 = (i : Nat) by lia]⟩
  unfold collect
  refine wpAny_bind (wpAny_runValue (codeAny_builtin entry_proto_collect' ?_))
  rw [Around.under_plainId PySem.F.plain_proto_collect _]
  show wpAny _ A.in1 (newList [] >>= fun l => again (.builtin "list.__iadd__" ⟨[l, .ref r], []⟩)) _ _ s
  refine wpAny_bind (wpAny_newObj_type ?_)
  refine wpAny_pure ⟨plainId_quiet PySem.F.plain_list_iadd _, codeAny_builtin entry_list_iadd' ?_⟩
  rw [Around.under_plainId PySem.F.plain_list_iadd _]
  show wpAny _ A.in1 (Builtin.List.listExtendWith (.ref s.heap.objs.size) (.ref r) (.ref s.heap.objs.size)) _ _ _
  have key := wpAny_extend_range (prog := prog) (w := w) (A := A) (n := 7) (a := 0) (b := 7) (c := 1) (s := { s with heap := s.heap.push { cls := .type "list", data := .seq ([] : List Value).toArray } })
    (R := fun q s' => ∃ h' tk acc' c', q = .ok (.ret (.ref s.heap.objs.size)) ∧ s' = { s with heap := h', toks := tk } ∧ (∀ b o, b ≠ s.heap.objs.size → (s.heap.push { cls := .type "list", data := .seq ([] : List Value).toArray }).get? b = some o → h'.get? b = some o) ∧
      h'.get? s.heap.objs.size = some { cls := .type "list", dict := none, data := .seq acc' c', slots := #[] } ∧ ItemsOf (fun i v => ∃ t, v = Value.int (0 + (i : Nat) * 1) t) acc' 7)
    hh (Heap.get?_push_of_some _ hr) (by decide +kernel) (by decide +kernel) (by decide) s.heap.objs.size (.ref s.heap.objs.size) 0 (Heap.get?_push_size _ rfl) fun h' tk acc' c' hk hS hacc => ⟨h', tk, acc', c', rfl, rfl, hk, hS, hacc⟩
  refine wpAny_mono key (fun fin' s' x => ?_) fun e s' x => ?_
  · cases fin' with
    | done f =>
      obtain ⟨h', tk, acc', c', e, rfl, hk, hS', hacc⟩ := x
      cases e
      exact fin h' tk acc' c' hk hS' hacc
    | again c₁ =>
      refine ⟨x.1, codeAny_mono x.2 fun q s₂ y => ?_⟩
      obtain ⟨h', tk, acc', c', rfl, rfl, hk, hS', hacc⟩ := y
      exact fin h' tk acc' c' hk hS' hacc
  · obtain ⟨_, _, _, _, e', _⟩ := x
    cases e'
end
theorem IsI.to {h h' : Heap} {C : Nat} {x L kS : Addr} {nm y : Str} {v : Value} {m : Str → Option Value} {xs : Array Value} {e : Nat} (i : IsI h C x nm) (n : h.Ns L m) (hm : m y = some v) (hk : h.get? kS = some (seqObj "list" xs e))
    (k : ∀ b o, b ≠ L → b ≠ kS → h.get? b = some o → h'.get? b = some o) : IsI h' C x nm := by
  obtain ⟨dx, u, e1, e2⟩ := i
  obtain ⟨oL, es, nn, hL, hd, _, hf⟩ := n
  refine ⟨dx, u, k _ _ (fun q => ?_) (fun q => ?_) e1, k _ _ (fun q => ?_) (fun q => ?_) e2⟩
  · rw [q, hL] at e1; cases e1; cases hd
  · rw [q, hk] at e1; cases e1
  · rw [q, hL] at e2
    cases e2
    cases hd
    have := hf y
    rw [hm] at this
    cases this
  · rw [q, hk] at e2; simp [emptyDict, seqObj] at e2
/-- what is asked of the lambda upon j -/
noncomputable def KeyC (prog : Program) (w : World) (s : Shared) (L f : Addr) (C : Nat) (nm : Nat → Str) : Prop :=
  ∀ (A : Around) (i : Nat) (t : Tok) (h : Heap) (tk : Nat) (Q : Value → Shared → Prop) (E : Value → Shared → Prop), Rm A 3 → i < 7 → KpB L s.heap h →
    (∀ x h' tk', Kp h h' → IsI h' C x (nm i) → Q (.ref x) { s with heap := h', toks := tk' }) → wpAny (model prog w) A (call (.ref f) [.int (i : Nat) t]) Q E { s with heap := h, toks := tk }
/-- the keys made so far -/
noncomputable def KeysAt (h : Heap) (C : Nat) (nm : Nat → Str) (ks : List Value) : Prop := ∀ i, i < ks.length → ∃ x, ks[i]? = some (.ref x) ∧ IsI h C x (nm i)
section
variable {prog : Program} {w : World} {A : Around} {E : Value → Shared → Prop} {s : Shared} {L f : Addr} {C : Nat} {nm : Nat → Str} {m : Str → Option Value}
theorem keys_ {kS D : Addr} {e1 : Nat} {y : Str} {v : Value} {Fin : List Value → Nat → Shared → Prop} (rm : Rm A 3) (hm : m y = some v) (key : KeyC prog w s L f C nm) (nk : s.heap.get? kS = none) (nd : s.heap.get? D = none) (dk : D ≠ kS) (kl : kS ≠ L) (dl : D ≠ L)
    (fin : ∀ ks e h tk, ks.length = 7 → h.Ns L m → KpB L s.heap h → h.get? kS = some (seqObj "list" (List.toArray ks) e) → h.get? D = some (seqObj "list" #[] e1) → KeysAt h C nm ks → Fin ks e { s with heap := h, toks := tk }) :
    ∀ (r ks : List Value) (e : Nat) (h : Heap) (tk : Nat), ks.length + r.length = 7 → (∀ j v, r[j]? = some v → ∃ t, v = Value.int ((ks.length + j : Nat) : Int) t) → h.Ns L m → KpB L s.heap h → h.get? kS = some (seqObj "list" (List.toArray ks) e) → h.get? D = some (seqObj "list" #[] e1) → KeysAt h C nm ks →
      KatKeys prog w A (nilH s.heap) L m kS (.ref f) Fin r ks e { s with heap := h, toks := tk }
  | [], ks, e, h, tk, hl, hv, n, k, hk, hd, hK => KatKeys.nil (fin ks e h tk (by simpa using hl) n k hk hd hK)
  | v :: r, ks, e, h, tk, hl, hv, n, k, hk, hd, hK => by
    obtain ⟨t, rfl⟩ := hv 0 v rfl
    rw [List.length_cons] at hl
    refine KatKeys.cons (key _ _ _ _ _ _ _ rm (by lia) k fun x h' tk' kp hI => ?_)
    have n' := n.keeps kp
    have hk' := kp _ _ hk
    have hd' := kp _ _ hd
    refine KatBack.intro (news := (kS, seqObj "list" (List.toArray ks) e) :: allBut h' [L, kS]) (g := fun o => (kS, o) :: allBut h' [L, kS]) (fr0 n') (news0 fun p hp => ?_) (UpdF.head fun p hp => ?_) fun h2 c F2 N2 => ?_
    · rcases List.mem_cons.mp hp with rfl | hp
      · exact ⟨hk', kl⟩
      · have := mem_allBut.mp hp
        exact ⟨this.2, fun q => this.1 (by rw [q]; exact .head _)⟩
    · have := mem_allBut.mp hp
      exact fun q => this.1 (by rw [q]; exact .tail _ (.head _))
    · have k2 : ∀ b o, b ≠ L → b ≠ kS → h'.get? b = some o → h2.get? b = some o := fun b o h1 h3 e => (N2 (b, o) (.tail _ (mem_allBut.mpr ⟨by simp [h1, h3], e⟩))).1
      refine keys_ rm hm key nk nd dk kl dl fin r (ks ++ [.ref x]) c h2 tk' (by rw [List.length_append, List.length_singleton]; lia) (fun j v e => ?_) F2.ns (fun b o h1 e => k2 b o h1 (fun q => by rw [q, nk] at e; cases e) (kp _ _ (k b o h1 e))) (N2 _ (.head _)).1 (k2 _ _ dl dk hd') fun i hi => ?_
      · rw [List.length_append, List.length_singleton]
        obtain ⟨t, rfl⟩ := hv (j + 1) v e
        exact ⟨t, by rw [show ks.length + (j + 1) = ks.length + 1 + j by lia]⟩
      · rw [List.length_append, List.length_singleton] at hi
        rcases get_snoc (v := .ref x) rfl hi with ⟨hi, e⟩ | ⟨rfl, e⟩
        · obtain ⟨z, e', I⟩ := hK i hi
          exact ⟨z, e.trans e', (I.keeps kp).to n' hm hk' k2⟩
        · refine ⟨x, e, IsI.to ?_ n' hm hk' k2⟩
          exact hI
end
end
end Mine
namespace Mine
section
open PySem PySem.W PySem.W.X PyProof.Rows PySem.Spec PySem.Calls
set_option maxRecDepth 100000
set_option maxHeartbeats 0
set_option linter.unusedVariables false
set_option linter.unusedSimpArgs false
theorem ci_swap (x y : Int) : ci y x = (ci x y).swap := by
  rcases Int.lt_trichotomy x y with h | h | h
  · rw [ci_lt h, ci_gt h]; rfl
  · rw [h, ci_eq]; rfl
  · rw [ci_gt h, ci_lt h]; rfl
theorem then_swap (a b : Ordering) : (a.then b).swap = a.swap.then b.swap := by cases a <;> rfl
theorem cmpP_swap (p q : Int × Int) : cmpP q p = (cmpP p q).swap := by
  unfold cmpP; rw [then_swap, ci_swap p.1 q.1, ci_swap p.2 q.2]
theorem cmpR_swap : ∀ x y : List (Int × Int), cmpR y x = (cmpR x y).swap
  | [], [] => rfl
  | [], _ :: _ => rfl
  | _ :: _, [] => rfl
  | p :: x, q :: y => by
    show (cmpP q p).then (cmpR y x) = ((cmpP p q).then (cmpR x y)).swap
    rw [then_swap, cmpP_swap p q, cmpR_swap x y]
theorem cmpP_eq_iff {p q : Int × Int} : cmpP p q = .eq ↔ p = q := by
  constructor
  · intro h
    unfold cmpP at h
    have h1 : p.1 = q.1 := by
      rcases Int.lt_trichotomy p.1 q.1 with l | l | l
      · rw [ci_lt l] at h; cases h
      · exact l
      · rw [ci_gt l] at h; cases h
    rw [h1, ci_eq] at h
    have h2 : p.2 = q.2 := by
      rcases Int.lt_trichotomy p.2 q.2 with l | l | l
      · rw [ci_lt l] at h; cases h
      · exact l
      · rw [ci_gt l] at h; cases h
    exact Prod.ext h1 h2
  · rintro rfl
    unfold cmpP; rw [ci_eq, ci_eq]; rfl
theorem cmpR_eq_iff : ∀ {x y : List (Int × Int)}, cmpR x y = .eq ↔ x = y
  | [], [] => by simp [cmpR]
  | [], _ :: _ => by simp [cmpR]
  | _ :: _, [] => by simp [cmpR]
  | p :: x, q :: y => by
    show (cmpP p q).then (cmpR x y) = .eq ↔ _
    constructor
    · intro h
      have h1 : cmpP p q = .eq := by cases e : cmpP p q <;> rw [e] at h <;> first | rfl | cases h
      rw [h1] at h
      rw [cmpP_eq_iff.mp h1, cmpR_eq_iff.mp h]
    · intro h
      injection h with h1 h2
      rw [cmpP_eq_iff.mpr h1, cmpR_eq_iff.mpr h2]; rfl
theorem cmpP_lt {p q : Int × Int} : cmpP p q = .lt ↔ p.1 < q.1 ∨ (p.1 = q.1 ∧ p.2 < q.2) := by
  unfold cmpP
  rcases Int.lt_trichotomy p.1 q.1 with l | l | l
  · rw [ci_lt l]; simp [l]
  · rw [l, ci_eq]
    rcases Int.lt_trichotomy p.2 q.2 with l2 | l2 | l2
    · rw [ci_lt l2]; simp [l2]
    · rw [l2, ci_eq]; simp
    · rw [ci_gt l2]
      constructor
      · intro h; cases h
      · intro h; lia
  · rw [ci_gt l]
    constructor
    · intro h; cases h
    · intro h; lia
theorem cmpR_ntr : ∀ {x y z : List (Int × Int)}, cmpR x y ≠ .lt → cmpR y z ≠ .lt → cmpR x z ≠ .lt
  | [], [], z, _, h => h
  | [], _ :: _, _, h, _ => absurd rfl h
  | _ :: _, _, [], _, _ => by intro h; cases h
  | _ :: _, [], _ :: _, _, h => absurd rfl h
  | p :: x, q :: y, r :: z, h1, h2 => by
    replace h1 : (cmpP p q).then (cmpR x y) ≠ .lt := h1
    replace h2 : (cmpP q r).then (cmpR y z) ≠ .lt := h2
    show (cmpP p r).then (cmpR x z) ≠ .lt
    have n1 : cmpP p q ≠ .lt := fun e => h1 (by rw [e]; rfl)
    have n2 : cmpP q r ≠ .lt := fun e => h2 (by rw [e]; rfl)
    by_cases e1 : p = q
    · subst e1
      rw [cmpP_eq_iff.mpr rfl] at h1
      replace h1 : cmpR x y ≠ .lt := h1
      by_cases e2 : p = r
      · subst e2
        rw [cmpP_eq_iff.mpr rfl] at h2 ⊢
        exact cmpR_ntr h1 h2
      · have : cmpP p r ≠ .eq := fun e => e2 (cmpP_eq_iff.mp e)
        rw [then_ne this]; exact n2
    · have g1 : ¬ (p.1 < q.1 ∨ (p.1 = q.1 ∧ p.2 < q.2)) := fun h => n1 (cmpP_lt.mpr h)
      have g2 : ¬ (q.1 < r.1 ∨ (q.1 = r.1 ∧ q.2 < r.2)) := fun h => n2 (cmpP_lt.mpr h)
      have g3 : ¬ (p.1 = q.1 ∧ p.2 = q.2) := fun h => e1 (Prod.ext h.1 h.2)
      have n3 : ¬ (p.1 < r.1 ∨ (p.1 = r.1 ∧ p.2 < r.2)) := by lia
      have n4 : p ≠ r := fun e => by rw [← e] at g2; lia
      have : cmpP p r ≠ .eq := fun e => n4 (cmpP_eq_iff.mp e)
      rw [then_ne this]
      exact fun e => n3 (cmpP_lt.mp e)
/-- who of the names stands ahead -/
noncomputable def cN (nm : Nat → Str) (i j : Nat) : Bool := decide (ordV (nm i) (nm j) < 0)
theorem ci_zero_lt {z : Int} : z < 0 ↔ ci z 0 = .lt := by
  constructor
  · exact ci_lt
  · intro h
    rcases Int.lt_trichotomy z 0 with l | l | l
    · exact l
    · rw [l, ci_eq] at h; cases h
    · rw [ci_gt l] at h; cases h
theorem cN_eq (nm : Nat → Str) (i j : Nat) : cN nm i j = (cmpR (rowV (nm i)) (rowV (nm j)) == .lt) := by
  unfold cN
  rw [← ord_rows]
  cases e : ci (ordV (nm i) (nm j)) 0 with
  | lt => exact decide_eq_true (ci_zero_lt.mpr e)
  | eq => exact decide_eq_false fun h => by rw [ci_zero_lt.mp h] at e; cases e
  | gt => exact decide_eq_false fun h => by rw [ci_zero_lt.mp h] at e; cases e
theorem cR_sw (r : Nat → List (Int × Int)) : SW fun i j => cmpR (r i) (r j) == .lt := by
  refine ⟨fun i j h => ?_, fun i j k h1 h2 => ?_⟩
  · have h' : cmpR (r i) (r j) = .lt := beq_iff_eq.mp h
    rw [cmpR_swap, h']; rfl
  · have h1' : cmpR (r i) (r j) ≠ .lt := fun e => by rw [e] at h1; cases h1
    have h2' : cmpR (r j) (r k) ≠ .lt := fun e => by rw [e] at h2; cases h2
    have := cmpR_ntr h1' h2'
    cases e : cmpR (r i) (r k) <;> first | rfl | exact absurd e this
theorem cN_sw (nm : Nat → Str) : SW (cN nm) := by
  have : cN nm = fun i j => cmpR (rowV (nm i)) (rowV (nm j)) == .lt := by funext i j; exact cN_eq nm i j
  rw [this]
  exact cR_sw fun i => rowV (nm i)
section
variable {prog : Program} {w : World} {A : Around} {E : Value → Shared → Prop} {s : Shared}
theorem lt_key {f : Str → Str → Int} (OC : OrdC prog w f) {C : Nat} {x y : Addr} {a b : Str} {Q : Bool → Shared → Prop} (r : Rm A 10) (X : Bs w s.heap) (HK : IsK s.heap C) (hx : IsI s.heap C x a) (hy : IsI s.heap C y b) (la : a.length ≤ 6) (lb : b.length ≤ 6)
    (hq : ∀ h' t', Kp s.heap h' → Q (decide (f a b < 0)) { s with heap := h', toks := t' }) :
    wpAny (model prog w) A (keyLt' oneType' (.ref x) (.ref y)) Q E s := by
  obtain ⟨k, F⟩ := HK
  obtain ⟨ox, I⟩ := inst_of hx
  rw [keyLt'_oneType, oneLt'_eq]
  simp only [if_true]
  refine wpAny_bind (wpAny_cRoomFor r.units ?_)
  refine wpAny_bind (ifBound_K (kx_in F) I (f_lt F) (fn_lt F) (m_lt OC r X F hx hy la lb fun h' t' k' z' => ?_))
  exact wpAny_truthy_bool (hq h' t' k')
end
end
end Mine
namespace Mine
section
open PySem PySem.W PySem.W.X PyProof.Rows PySem.Spec PySem.Calls
set_option maxRecDepth 100000
set_option maxHeartbeats 0
set_option linter.unusedVariables false
set_option linter.unusedSimpArgs false
/-- seven places, put in order by c -/
noncomputable def Ordered (c : Nat → Nat → Bool) (out : List Value) : Prop := ∃ p, Inv c 7 p 7 ∧ out.length = 7 ∧ ∀ i, i < 7 → ∃ t, out[i]? = some (Value.int (p.getD i 0 : Nat) t)
theorem ordered_of {c : Nat → Nat → Bool} {p : Array Nat} {vs : List Value} (I : Inv c 7 p 7) (hl : vs.length = 7) (hv : ∀ i v, vs[i]? = some v → ∃ t, v = Value.int (i : Nat) t) : Ordered c (p.toList.map fun i => vs.getD i Value.none) := by
  refine ⟨p, I, by rw [List.length_map, Array.length_toList, I.size], fun i hi => ?_⟩
  have hp : i < p.size := by rw [I.size]; exact hi
  have e1 : p.toList[i]? = some (p.getD i 0) := by
    rw [Array.getElem?_toList, Array.getD_eq_getD_getElem?, Array.getElem?_eq_getElem hp]; rfl
  have hb := I.bd i hi
  have e2 : vs[p.getD i 0]? = some vs[p.getD i 0] := List.getElem?_eq_getElem (by omega)
  obtain ⟨t, e3⟩ := hv _ _ e2
  refine ⟨t, ?_⟩
  rw [List.getElem?_map, e1]
  show some (vs.getD (p.getD i 0) Value.none) = _
  rw [List.getD_eq_getElem?_getD, e2, e3]; rfl
section
variable {prog : Program} {w : World} {A : Around} {E : Value → Shared → Prop} {s : Shared} {L f : Addr} {C : Nat} {nm : Nat → Str} {m : Str → Option Value}
theorem sortedK7 {r : Addr} {t1 t2 t3 : Tok} {y : Str} {v : Value} {Q : Value → Shared → Prop} (OC : OrdC prog w ordV) (rm : Rm A 12) (hr : IsRange s.heap r 0 7 1 t1 t2 t3) (hn : s.heap.Ns L m) (hm : m y = some v)
    (HK : ∀ h, KpB L s.heap h → IsK h C) (HB : ∀ h, KpB L s.heap h → Bs w h) (ln : ∀ i, i < 7 → (nm i).length ≤ 6) (key : KeyC prog w s L f C nm)
    (fin : ∀ D c h' tk out, KpB L s.heap h' → h'.Ns L m → s.heap.get? D = none → h'.get? D = some (seqObj "list" (List.toArray out) c) → Ordered (cN nm) out → Q (.ref D) { s with heap := h', toks := tk }) :
    wpAny (model prog w) A (call (.builtin "sorted") [.ref r] [(Str.ofString "key", .ref f)]) Q E s := by
  refine call_function_entry_kw kind_sorted plain_sorted entry_sorted (ksk_s1 _ _) ?_
  unfold Builtin.«sorted»
  refine wpAny_bind (m := checkCount "sorted" 1 1 _) (wpAny_pure ?_)
  refine wpAny_bind (collectR (A := A.in1) rm.hh hr fun h1 tk1 vs k1 hl hv => ?_)
  refine wpAny_bind (wpAny_newList ?_ (by rw [sizeLine_eq]; omega))
  dsimp only
  have hD : (h1.push { cls := .type "list", data := .seq vs.toArray }).get? h1.objs.size = some (seqObj "list" vs.toArray 0) := Heap.get?_push_size _ rfl
  have k2 := kp_push h1 { cls := .type "list", data := .seq vs.toArray }
  have nD1 : h1.get? h1.objs.size = none := Heap.get?_none_of_le (Nat.le_refl _)
  generalize h1.push { cls := .type "list", data := .seq vs.toArray } = h2 at hD k2 ⊢
  generalize h1.objs.size = D at hD nD1 ⊢
  have nD : s.heap.get? D = none := kp_none k1 nD1
  have k12 : Kp s.heap h2 := Kp.trans k1 k2
  obtain ⟨oL, eL, _⟩ := LCg.ns_obj hn
  have hDL : D ≠ L := fun q => by rw [q, eL] at nD; cases nD
  have hn2 := hn.keeps k12
  refine wpAny_bind (wpAny_holding (wpAny_call_entry_kw slot_list_sort ⟨_, hD, rfl⟩ entry_list_sort ?body (ksk_l1 _ _)))
  case body =>
    rw [ksk_t1]
    refine kat_keyed (h₀ := nilH s.heap) (L := L) (m := m) (vs := vs) (news := allBut h2 [L, D]) (s := { s with heap := h2, toks := tk1 }) (fr0 hn2) (news0 fun p hp => ?_) hD hDL (nil_get _ _) (fun p hp => ?_) (by omega) (by omega) fun kS e1 h' F' N' l0 l1 => ?_
    · have := mem_allBut.mp hp
      exact ⟨this.2, fun q => this.1 (by rw [q]; exact .head _)⟩
    · have := mem_allBut.mp hp
      exact fun q => this.1 (by rw [q]; exact .tail _ (.head _))
    have k3 : ∀ b o, b ≠ L → b ≠ D → h2.get? b = some o → h'.get? b = some o := fun b o q1 q2 e => (N' (b, o) (.tail _ (.tail _ (mem_allBut.mpr ⟨by simp [q1, q2], e⟩)))).1
    have hkS := N' _ (.head _)
    have hDe := N' _ (.tail _ (.head _))
    dsimp only at hkS hDe
    have nk2 : ∀ b o, h2.get? b = some o → b ≠ L → b ≠ D → b < kS := fun b o e q1 q2 => l1 (b, o) (mem_allBut.mpr ⟨by simp [q1, q2], e⟩)
    have nkS : s.heap.get? kS = none := by
      cases q : s.heap.get? kS with
      | none => rfl
      | some o => exact absurd (nk2 kS o (k12 _ _ q) hkS.2.1 (Nat.ne_of_gt l0)) (Nat.lt_irrefl _)
    have kB : KpB L s.heap h' := fun b o q1 e => k3 b o q1 (fun q => by rw [q, nD] at e; cases e) (k12 _ _ e)
    rw [show vs.length = 7 from hl]
    refine keys_ (C := C) (nm := nm) (D := D) (e1 := e1) (y := y) (v := v) (by exact (rm.le (by omega : 3 + 1 + 1 ≤ 12)).in1.in1) hm key nkS nD (Nat.ne_of_lt l0) hkS.2.1 hDL ?_ vs [] 0 h' tk1 (by simpa using hl) (fun j v e => by obtain ⟨t, rfl⟩ := hv j v e; exact ⟨t, by rw [List.length_nil, Nat.zero_add]⟩) F'.ns kB hkS.1 hDe.1 (fun i hi => absurd hi (Nat.not_lt_zero _))
    intro ks e h3 tk3 hkl n3 b3 kS3 D3 K3
    have IK : ∀ i, i < 7 → ∃ x, ks[i]? = some (.ref x) ∧ IsI h3 C x (nm i) := fun i hi => K3 i (by omega)
    have r10 : Rm A.in1.in1 10 := (rm.le (by omega : 10 + 1 + 1 ≤ 12)).in1.in1
    refine kas_kind (T := .ref (C + 111)) (by omega) (fun v hv => ?_) (by rfl) (by simp) ?_
    · obtain ⟨i, hi, e⟩ := List.getElem_of_mem hv
      obtain ⟨x, ex, I⟩ := IK i (by omega)
      rw [List.getElem?_eq_getElem hi, e] at ex
      cases ex
      obtain ⟨ox, IA⟩ := inst_of I
      exact IA.type
    rw [show katRev false ks = ks from rfl]
    have gk : ∀ i, i < 7 → ∃ x, ks.getD i Value.none = .ref x ∧ IsI h3 C x (nm i) := fun i hi => by
      obtain ⟨x, ex, I⟩ := IK i hi
      exact ⟨x, by rw [List.getD_eq_getElem?_getD, ex]; rfl, I⟩
    refine sort_ (Ok := fun s' => ∃ h4 tk4, s' = { s with heap := h4, toks := tk4 } ∧ Kp h3 h4) (cN_sw nm) (fun i j C' s' hi hj ok hq => ?_) (by omega) ⟨h3, tk3, rfl, Kp.refl _⟩ fun p s' ok I => ?_
    · obtain ⟨h4, tk4, rfl, k4⟩ := ok
      obtain ⟨x, ex, Ix⟩ := gk i hi
      obtain ⟨z, ez, Iz⟩ := gk j hj
      unfold kas_ask
      rw [ex, ez]
      have b4 : KpB L s.heap h4 := fun b o q e => k4 _ _ (b3 b o q e)
      exact lt_key (s := { s with heap := h4, toks := tk4 }) OC r10 (HB _ b4) (HK _ b4) (Ix.keeps k4) (Iz.keeps k4) (ln i hi) (ln j hj) fun h5 t5 k5 => hq _ ⟨h5, t5, rfl, Kp.trans k4 k5⟩
    · obtain ⟨h4, tk4, rfl, k4⟩ := ok
      rw [show katRev false vs = vs from rfl]
      have kS4 := k4 _ _ kS3
      have D4 := k4 _ _ D3
      have n4 := n3.keeps k4
      have b4 : KpB L s.heap h4 := fun b o q e => k4 _ _ (b3 b o q e)
      refine KatFin.intro (news := (kS, seqObj "list" (List.toArray ks) e) :: allBut h4 [L, kS]) (g := fun o => (kS, o) :: allBut h4 [L, kS]) (fr0 n4) (news0 fun p hp => ?_) (UpdF.head fun p hp => ?_) fun h5 c5 F5 N5 => ?_
      · rcases List.mem_cons.mp hp with rfl | hp
        · exact ⟨kS4, hkS.2.1⟩
        · have := mem_allBut.mp hp
          exact ⟨this.2, fun q => this.1 (by rw [q]; exact .head _)⟩
      · have := mem_allBut.mp hp
        exact fun q => this.1 (by rw [q]; exact .tail _ (.head _))
      have k5 : ∀ b o, b ≠ L → b ≠ kS → h4.get? b = some o → h5.get? b = some o := fun b o q1 q2 e => (N5 (b, o) (.tail _ (mem_allBut.mpr ⟨by simp [q1, q2], e⟩))).1
      have D5 := k5 _ _ hDL (Nat.ne_of_lt l0) D4
      refine KasFin.intro (news := (D, seqObj "list" #[] e1) :: allBut h5 [L, D]) (g := fun o => (D, o) :: allBut h5 [L, D]) (fr0 F5.ns) (news0 fun p hp => ?_) (UpdF.head fun p hp => ?_) fun h6 c6 F6 N6 => ?_
      · rcases List.mem_cons.mp hp with rfl | hp
        · exact ⟨D5, hDL⟩
        · have := mem_allBut.mp hp
          exact ⟨this.2, fun q => this.1 (by rw [q]; exact .head _)⟩
      · have := mem_allBut.mp hp
        exact fun q => this.1 (by rw [q]; exact .tail _ (.head _))
      have k6 : ∀ b o, b ≠ L → b ≠ D → h5.get? b = some o → h6.get? b = some o := fun b o q1 q2 e => (N6 (b, o) (.tail _ (mem_allBut.mpr ⟨by simp [q1, q2], e⟩))).1
      refine ⟨_, rfl, wpAny_pure ⟨_, rfl, ?_⟩⟩
      refine fin D c6 h6 tk4 _ (fun b o q e => ?_) F6.ns nD (N6 _ (.head _)).1 (ordered_of I hl hv)
      exact k6 b o q (fun z => by rw [z, nD] at e; cases e) (k5 b o q (fun z => by rw [z, nkS] at e; cases e) (b4 b o q e))
end
end
end Mine
namespace Mine
section
open PySem PySem.W PySem.W.X PyProof.Rows PySem.Spec PySem.Calls
set_option maxRecDepth 100000
set_option maxHeartbeats 0
set_option linter.unusedVariables false
set_option linter.unusedSimpArgs false
noncomputable def lamArgs (p : Pos) : Arguments := { posonlyargs := [], args := [{ arg := nn "j", annotation := none, pos := p }], vararg := none, kwonlyargs := [], kw_defaults := [], kwarg := none, defaults := [] }
noncomputable def lamBody (p1 p2 p3 p4 p5 : Pos) : Expr := .Call (.Name (nn "key") p1) [.Subscript (.Name (nn "names") p2) (.Name (nn "j") p3) p4] [] p5
noncomputable def lamScope : Scope := { kind := .function, names := [(nn "j", .local), (nn "key", .free), (nn "names", .free)], isGenerator := false, isCoroutine := false, more := [] }
noncomputable def lamCl (L : Nat) : List (Str × Addr) := [(nn "names", L + 5), (nn "key", L + 4)]
theorem keep_C {h : Heap} {C : Nat} {k : KD} (F : IsKd h C k) : keepIn (KX C k) (.ref (C + 111)) = true := by
  unfold keepIn
  dsimp only
  rw [lk_C F]
  have e1 : specialIn (KX C k) (.ref (C + 111)) "__call__" = some (some (.builtin "type.__call__")) := by
    unfold specialIn typeIn
    dsimp only
    rw [lk_C F]
    dsimp only [Option.map, Option.bind]
    unfold findIn; kernel_rfl
  show (specialIn (KX C k) (.ref (C + 111)) "__call__" == some (some (.builtin "type.__call__"))) = true
  rw [e1]
  exact beq_self_eq_true _
section
variable {prog : Program} {w : World} {A : Around} {E : Value → Shared → Prop} {s : Shared} {Q : Value → Shared → Prop}
/-- the made class called upon places -/
theorem cwC {pos : Pos} {C : Nat} {args : List (Bool × Sem Value)} {x : Sem Value} {rest : List (Bool × Sem Value)} {M : Model}
    (h : wpAny M A (spliced args) (fun vs s₁ => IsK s₁.heap C ∧ wpAny M A (call (.ref (C + 111)) vs) Q E s₁) E s) (ha : args = (false, x) :: rest := by rfl) (hplain : args.any (·.1) = false := by kernel_rfl) : wpAny M A (callWith pos (.ref (C + 111)) [] args []) Q E s := by
  subst ha
  refine callWith_of (P := fun h => IsK h C) (by rw [hplain]; rfl) (fun h X => ?_) (evalArgs_plain h)
  obtain ⟨k, F⟩ := X
  exact keeps_K (keep_C F) h (kx_in F)
/-- the seven names stand where the frame's cell tells -/
structure NmAt (L C : Nat) (a : Addr) (nm : Nat → Str) (h : Heap) : Prop where
  ck : h.IsCell (L + 4) (some (.ref (C + 111)))
  cn : h.IsCell (L + 5) (some (.ref a))
  ns : NamesAt h a nm
  K : IsK h C
  lim : h.NoLimit
theorem NmAt.to {L C : Nat} {a : Addr} {nm : Nat → Str} {h h' : Heap} (X : NmAt L C a nm h) (k : Kp h h') : NmAt L C a nm h' := by
  obtain ⟨ys, e, r⟩ := X.ns
  exact ⟨cell_kp X.ck k, cell_kp X.cn k, ⟨ys, k _ _ e, r⟩, X.K.keeps k, X.lim.keeps k⟩
theorem name_at {L C : Nat} {a : Addr} {nm : Nat → Str} {h : Heap} (X : NmAt L C a nm h) {i : Nat} (hi : i < 7) : ∃ its u, h.IsList a its ∧ its[i]? = some (.str (nm i) u) := by
  obtain ⟨ys, e, _, r⟩ := X.ns
  obtain ⟨_, u, e2⟩ := r i hi
  exact ⟨_, u, lst_list e, by simpa using e2⟩
theorem lam_key {L f C : Nat} {a c' : Addr} {nm : Nat → Str} {qual : Str} {pm ctv : Value} {p p1 p2 p3 p4 p5 : Pos} (hN : ∀ h, KpB L s.heap h → NmAt L C a nm h) (hf : ∀ h, KpB L s.heap h → h.get? f = some (kla_obj "<lambda>" qual (lamArgs p) (lamBody p1 p2 p3 p4 p5) lamScope (lamCl L) pm c' ctv))
    (hc : ∀ h, KpB L s.heap h → h.CodeRec (.ref c') qual) : KeyC prog w s L f C nm := by
  intro A i t h tk Q E r hi kB hq
  have X := hN h kB
  refine wpAny_call (kla_callFunE r.room (hf h kB) rfl rfl rfl rfl (hc h kB) ?_)
  rw [show bindArgs (kla_fn "<lambda>" qual (lamArgs p) (lamBody p1 p2 p3 p4 p5) lamScope (lamCl L) pm (.ref c') ctv) ⟨[.int (i : Nat) t], []⟩ = pure [(nn "j", .int (i : Nat) t)] from by kernel_rfl]
  refine wpAny_pure (wpAny_newFunctionEnv (by show ∀ x ∈ lamScope.names, x.2 ≠ .cell; decide +kernel) (by intro y hy; rw [List.mem_singleton.mp hy]; kernel_rfl) (fun h₁ hns hsb => ⟨X.lim.fresh _ hsb, ?_⟩) rfl)
  show codeAny _ _ (.expr (lamBody p1 p2 p3 p4 p5) (envX qual lamScope h.objs.size f (.ref c') (lamCl L))) _ _
  have kp : Kp h h₁ := fun b o e => hsb.extBut b o (Nat.ne_of_lt (Heap.lt_size e)) (Heap.get?_push_of_some _ e)
  have X₁ := X.to kp
  obtain ⟨its, u, il, ie⟩ := name_at X₁ hi
  refine kla_codeExpr ?_
  unfold lamBody
  refine wpAny_Call_NameR (eF (a := L + 4) X₁.ck (cwC (spliced_cons (Subscript_ (eF (a := L + 5) X₁.cn (eL (v := .int (i : Nat) t) hns (by kernel_rfl) (itemL il (by lia) ie (spliced_nil ⟨X₁.K, ?_⟩))))))))
  refine mkK (nm := nm i) ?_ X₁.lim X₁.K fun x h' t' k' _ _ I => ?_
  · have := r.d
    show A.depth + 1 + 1 < _
    lia
  · exact hq x h' t' (Kp.trans kp k') I
end
end
end Mine
namespace Mine
section
open PySem PySem.W PySem.W.X PyProof.Rows PySem.Spec PySem.Calls
set_option maxRecDepth 100000
set_option maxHeartbeats 0
set_option linter.unusedVariables false
set_option linter.unusedSimpArgs false
theorem pigeon : ∀ (n : Nat) (f : Nat → Nat), (∀ x, x < n → f x < n) → (∀ x y, x < n → y < n → f x = f y → x = y) → ∀ y, y < n → ∃ x, x < n ∧ f x = y
  | 0, f, _, _, y, hy => absurd hy (Nat.not_lt_zero _)
  | n + 1, f, hb, inj, y, hy => by
    have ih := pigeon n (fun x => if f x = n then f n else f x) (fun x hx => by
      (try dsimp only)
      split
      · rename_i e
        have h1 := hb n (by lia)
        have h2 : f n ≠ n := fun q => by have := inj x n (by lia) (by lia) (e.trans q.symm); lia
        lia
      · have := hb x (by lia); lia) (fun x z hx hz e => by
      (try dsimp only at e)
      split at e
      · rename_i e1
        split at e
        · rename_i e2; exact inj x z (by lia) (by lia) (e1.trans e2.symm)
        · have := inj n z (by lia) (by lia) e; lia
      · split at e
        · have := inj x n (by lia) (by lia) e; lia
        · exact inj x z (by lia) (by lia) e)
    by_cases h : y < n
    · obtain ⟨x, hx, e⟩ := ih y h
      (try dsimp only at e)
      split at e
      · exact ⟨n, by lia, e⟩
      · exact ⟨x, by lia, e⟩
    · have ey : y = n := by lia
      subst ey
      by_cases hn : f y = y
      · exact ⟨y, by lia, hn⟩
      · have h1 := hb y (by lia)
        obtain ⟨x, hx, e⟩ := ih (f y) (by lia)
        (try dsimp only at e)
        split at e
        · rename_i e1; exact ⟨x, by lia, e1⟩
        · have := inj x y (by lia) (by lia) e; lia
theorem Inv.inj {c : Nat → Nat → Bool} {N : Nat} {p : Array Nat} (W : SW c) (I : Inv c N p N) {x y : Nat} (hx : x < N) (hy : y < N) (e : p.getD x 0 = p.getD y 0) : x = y := by
  rcases Nat.lt_trichotomy x y with h | h | h
  · have := I.srt x y h hy; rw [e] at this; exact (TT.irr W this).elim
  · exact h
  · have := I.srt y x h hx; rw [e] at this; exact (TT.irr W this).elim
theorem Inv.surj {c : Nat → Nat → Bool} {N : Nat} {p : Array Nat} (W : SW c) (I : Inv c N p N) {y : Nat} (hy : y < N) : ∃ x, x < N ∧ p.getD x 0 = y := pigeon N (fun x => p.getD x 0) I.bd (fun x z hx hz e => I.inj W hx hz e) y hy
/-- one order alone -/
theorem Inv.same {c : Nat → Nat → Bool} {N : Nat} {p q : Array Nat} (W : SW c) (I : Inv c N p N) (J : Inv c N q N) : ∀ i, i < N → p.getD i 0 = q.getD i 0 := by
  intro i
  induction i using Nat.strongRecOn with
  | ind i ih =>
    intro hi
    obtain ⟨j, hj, ej⟩ := J.surj W (I.bd i hi)
    obtain ⟨k, hk, ek⟩ := I.surj W (J.bd i hi)
    by_cases e : p.getD i 0 = q.getD i 0
    · exact e
    · have hji : i < j := by
        rcases Nat.lt_trichotomy j i with h | h | h
        · have := ih j h hj; rw [ej] at this; have := I.inj W hj hi this; lia
        · rw [h] at ej; exact absurd ej.symm e
        · exact h
      have hki : i < k := by
        rcases Nat.lt_trichotomy k i with h | h | h
        · have := ih k h hk; rw [ek] at this; have := J.inj W hi hk this; lia
        · rw [h] at ek; exact absurd ek e
        · exact h
      have a1 := J.srt i j hji hj
      have a2 := I.srt i k hki hk
      rw [ej] at a1
      rw [ek] at a2
      exact (TT.irr W (TT.trans W a1 a2)).elim
theorem ints_of {ns : List Int} : ∀ {vs : List Value}, vs.length = ns.length → (∀ i, i < ns.length → ∃ t, vs[i]? = some (.int (ns.getD i 0) t)) → IntsAre vs ns := by
  induction ns with
  | nil => intro vs hl _; cases vs with
    | nil => exact .nil
    | cons _ _ => simp at hl
  | cons n ns ih =>
    intro vs hl h
    cases vs with
    | nil => simp at hl
    | cons v vs =>
      obtain ⟨t, e⟩ := h 0 (by simp)
      have e' : v = .int n t := by simpa using e
      subst e'
      exact .cons n t (ih (by simpa using hl) fun i hi => by obtain ⟨t, e⟩ := h (i + 1) (by simpa using hi); exact ⟨t, by simpa using e⟩)
theorem ordered_ints {c : Nat → Nat → Bool} (W : SW c) {o1 o2 : List Value} (h1 : Ordered c o1) (h2 : Ordered c o2) : ∃ ns, IntsAre o1 ns ∧ IntsAre o2 ns := by
  obtain ⟨p, I, l1, e1⟩ := h1
  obtain ⟨q, J, l2, e2⟩ := h2
  have hl : ((List.range 7).map fun i => ((p.getD i 0 : Nat) : Int)).length = 7 := by simp
  have hg : ∀ i, i < 7 → ((List.range 7).map fun i => ((p.getD i 0 : Nat) : Int)).getD i 0 = (p.getD i 0 : Nat) := fun i hi => by
    simp [List.getD_eq_getElem?_getD, hi]
  refine ⟨(List.range 7).map fun i => ((p.getD i 0 : Nat) : Int), ints_of (by rw [l1, hl]) fun i hi => ?_, ints_of (by rw [l2, hl]) fun i hi => ?_⟩
  · rw [hl] at hi
    rw [hg i hi]; exact e1 i hi
  · rw [hl] at hi
    rw [hg i hi, I.same W J i hi]; exact e2 i hi
section
variable {w : World} {h₀ G : Heap} {L : Nat} {h h' : Heap} {m : Str → Option Value} {c : Nat → Option Value} {p16 p107 : Array Value}
theorem LF.kpB (F : LF w h₀ G L h m c p16 p107) (k : KpB L h h') (n : h'.Ns L m) : LF w h₀ G L h' m c p16 p107 := by
  have bl := F.bl
  refine ⟨n, fun b o e => k b o (fun q => by rw [q, F.gL] at e; cases e) (F.gh b o e), F.gL, fun i hi => ?_, F.gc, k _ _ (by show (16 : Nat) ≠ L; lia) F.t16, k _ _ (by show (107 : Nat) ≠ L; lia) F.t107, F.g16, F.g107, F.og, F.X, F.m4, F.bl⟩
  obtain ⟨o, e, d⟩ := F.cl i hi
  exact ⟨o, k _ _ (by show L + 1 + i ≠ L; lia) e, d⟩
theorem LF.solid (F : LF w h₀ G L h m c p16 p107) (k : KpB L h h') : Kp G h' := fun b o e => k b o (fun q => by rw [q, F.gL] at e; cases e) (F.gh b o e)
variable {M : Model} {A : Around} {E : Value → Shared → Prop} {s : Shared} {Q : Value → Shared → Prop}
theorem LF.lam {params : Arguments} {body : Expr} {scope : Scope} {pos : Pos} {clos : List (Str × Addr)} (F : LF w h₀ G L s.heap m c p16 p107) (ht : TriplesOk p107.toList) (hnf : codeAmong pos p107.toList = none) (hcl : closureFor scope (lE L) = pure clos) (hdef : defaultsOf params (lE L) = ([], []))
    (h : ∀ f c' ctv pm h' tk, LF w h₀ G L h' m c p16 (p107 ++ #[rawInt pos.line, rawInt pos.col, .ref c']) → (∀ b o, b ≠ 107 → s.heap.get? b = some o → h'.get? b = some o) → h'.get? f = some (kla_obj "<lambda>" ((lE L).qual ++ "<lambda>") params body scope clos pm c' ctv) → s.heap.get? f = none →
      h'.CodeRec (.ref c') ((lE L).qual ++ "<lambda>") → Q (.ref f) { s with heap := h', toks := tk }) : wpAny M A (eval (.Lambda params body scope pos) (lE L)) Q E s := by
  have X := F.bs.X
  have bl := F.bl
  obtain ⟨sl4, e4⟩ := F.m4
  have hg := nsIn_Ns X (a := 3) rfl (strKeys_of (by kernel_rfl))
  have C : CodeHd s.heap 109 107 := by
    exact ⟨_, _, nn "/claim/cut.py", 302, 3, 0, true, 181, 0, X 109 _ rfl, rfl, rfl, rfl, rfl, rfl, rfl, rfl, rfl, by decide⟩
  refine kla_eval hdef (kla_makeFunction (c := 109) (P := 107) hcl rfl hg rfl C F.t107 ht hnf (by decide) ⟨4, _, by kernel_rfl, by decide, by decide, by decide, F.gh _ _ e4, rfl, rfl, rfl⟩ fun c' ctv h' tk hx hge hlt hrec htb => ?_)
  refine h _ c' ctv _ _ tk ⟨(F.ns.extBut hx (by show L ≠ 107; lia)).push _, fun b o e => Heap.get?_push_of_some _ (hx b o (fun q => by rw [q, F.g107] at e; cases e) (F.gh b o e)), F.gL, fun i hi => ?_, F.gc, Heap.get?_push_of_some _ (hx _ _ (by decide) F.t16), Heap.get?_push_of_some _ htb, F.g16, F.g107, F.og, F.X, F.m4, bl⟩
    (fun b o q e => Heap.get?_push_of_some _ (hx b o q e)) (Heap.get?_push_size _ rfl) (Heap.get?_none_of_le (Nat.le_of_lt (Nat.lt_of_le_of_lt hge hlt))) (hrec.keeps fun b o e => Heap.get?_push_of_some _ e)
  obtain ⟨o, e, d⟩ := F.cl i hi
  exact ⟨o, Heap.get?_push_of_some _ (hx _ _ (by show L + 1 + i ≠ 107; lia) e), d⟩
end
end
end Mine
namespace Mine
section
open PySem PySem.W PySem.W.X PyProof.Rows PySem.Spec PySem.Calls
set_option maxRecDepth 100000
set_option maxHeartbeats 0
set_option linter.unusedVariables false
set_option linter.unusedSimpArgs false
noncomputable def DueAt (G : Heap) (d : Addr) (nm : Nat → Str) : Prop := ∃ ys, G.get? d = some (lst ys) ∧ Ordered (cN nm) ys
section
variable {w : World} {h₀ G : Heap} {L : Nat} {m : Str → Option Value} {c : Nat → Option Value} {p16 p107 : Array Value} {A : Around} {E : Value → Shared → Prop} {s : Shared}
theorem evalAll_one {M : Model} {x : Sem Value} {Q : List Value → Shared → Prop} (h : wpAny M A x (fun v s' => Q [v] s') E s) : wpAny M A (evalAll [x]) Q E s :=
  evalAll_cons (wpAny_mono h (fun v s' h' => evalAll_nil h') fun _ _ e => e)
/-- what the lambda stands on -/
theorem LF.key {C : Nat} {a c' f : Addr} {nm : Nat → Str} {qual : Str} {pm ctv : Value} {p p1 p2 p3 p4 p5 : Pos} (F : LF w h₀ G L s.heap m c p16 p107) (c3 : c 3 = some (.ref (C + 111))) (c4 : c 4 = some (.ref a)) (HN : NamesAt G a nm) (HK : IsK G C)
    (ef : s.heap.get? f = some (kla_obj "<lambda>" qual (lamArgs p) (lamBody p1 p2 p3 p4 p5) lamScope (lamCl L) pm c' ctv)) (hc : s.heap.CodeRec (.ref c') qual) : KeyC Challenge.rw_mg0016_01.prog w s L f C nm := by
  obtain ⟨oL, es, nn', hL, hd, _⟩ := F.ns
  have hfL : f ≠ L := fun q => by rw [q, hL] at ef; cases ef; cases hd
  refine lam_key (a := a) (fun h k => ⟨?_, ?_, ?_, HK.keeps (F.solid k), ?_⟩) (fun h k => k _ _ hfL ef) (fun h k => ?_)
  · obtain ⟨o, e, d⟩ := F.cl 3 (by decide)
    rw [c3] at d
    exact ⟨o, k _ _ (by show L + 1 + 3 ≠ L; lia) e, d⟩
  · obtain ⟨o, e, d⟩ := F.cl 4 (by decide)
    rw [c4] at d
    exact ⟨o, k _ _ (by show L + 1 + 4 ≠ L; lia) e, d⟩
  · obtain ⟨ys, e, r⟩ := HN
    exact ⟨ys, F.solid k _ _ e, r⟩
  · exact kf_nolimit (F.X.keeps (F.solid k)).X
  · obtain ⟨cc, oc, vs, tq, e1, e2, e3, e4⟩ := hc
    refine ⟨cc, oc, vs, tq, e1, k _ _ (fun q => ?_) e2, e3, e4⟩
    rw [q, hL] at e2
    cases e2
    rw [e3] at hd; cases hd
theorem st5 {C : Nat} {a d : Addr} {nm : Nat → Str} {v : Value} (r : Rm A 30) (F : LF w h₀ G L s.heap m c p16 #[]) (hm : m (nn "script") = some v) (c3 : c 3 = some (.ref (C + 111))) (c4 : c 4 = some (.ref a)) (c2 : c 2 = some (.ref d)) (HN : NamesAt G a nm) (HK : IsK G C) (HD : DueAt G d nm) :
    wpAny (model Challenge.rw_mg0016_01.prog w) A (exec (lS 5) (lE L)) (fun f s' => ∃ c', Left w h₀ L s m c p16 #[rawInt 110, rawInt 0, .ref c'] G (fun _ => True) f s') E s := by
  refine wpAny_If (wpAny_isTrue_Compare1 ?_)
  refine wpAny_Call_Name_kw (eB (v := .builtin "sorted") F.bs (callWith_kw (spliced_cons (rangeE (n := 7) F.bs (wpAny_Constant_int ⟨_, _, rfl, rfl, fun h₁ tk₁ ra t1 t2 t3 k₁ hra hr => spliced_nil (kws_cons ?_)⟩)))))
  have F₁ := F.kp k₁
  refine LF.lam (params := lamArgs ⟨110, 7, 110, 8⟩) (body := lamBody ⟨110, 10, 110, 13⟩ ⟨110, 14, 110, 19⟩ ⟨110, 20, 110, 21⟩ ⟨110, 14, 110, 22⟩ ⟨110, 10, 110, 23⟩) (scope := lamScope) (pos := ⟨110, 0, 110, 23⟩) (clos := lamCl L) (s := { s with heap := h₁, toks := tk₁ }) F₁ trivial (by rfl) (by with_unfolding_all rfl) (by rfl) fun f c' ctv pm h₂ tk₂ F₂ k₂ ef nf hc => ?_
  dsimp only at k₂ nf
  refine kws_nil ?_
  show wpAny _ _ (call (.builtin "sorted") [.ref ra] [(Str.ofString "key", .ref f)]) _ _ _
  have hr₂ : IsRange h₂ ra 0 7 1 t1 t2 t3 := k₂ _ _ (fun q => by rw [q] at hr; have := F₁.t107; rw [show h₁.get? 107 = _ from hr] at this; simp [tableObj] at this) hr
  refine sortedK7 (s := { s with heap := h₂, toks := tk₂ }) (C := C) (nm := nm) order_ (r.le (by lia)) hr₂ F₂.ns hm (fun h k => HK.keeps (F₂.solid k)) (fun h k => F₂.X.keeps (F₂.solid k)) (fun i hi => ?_) (F₂.key (s := { s with heap := h₂, toks := tk₂ }) c3 c4 HN HK ef hc) fun D cD h₃ tk₃ out k₃ n₃ nD eD HO => ?_
  · obtain ⟨_, _, _, q⟩ := HN; exact (q i hi).1
  dsimp only at k₃
  have F₃ := F₂.kpB k₃ n₃
  obtain ⟨ys, ed, HO2⟩ := HD
  have cd : h₃.IsCell (L + 1 + 2) (some (.ref d)) := by have := F₃.cl 2 (by decide); rw [c2] at this; exact this
  refine eC (a := L + 1 + 2) cd ?_
  obtain ⟨ns, i1, i2⟩ := ordered_ints (cN_sw nm) HO HO2
  refine ke_ne_ints (s := { s with heap := h₃, toks := tk₃ }) ⟨_, eD, rfl, _, rfl⟩ (lst_list (F₃.gh _ _ ed)) i1 i2 ?_ (wpAny_truthy_bool ?_)
  · have := r.u; lia
  · rw [if_neg (by simp)]
    exact wpAny_execs_nil ⟨c', rfl, h₃, _, G, rfl, F₃, Kp.refl _, trivial⟩
end
end
end Mine
namespace Mine
section
open PySem PySem.W PySem.W.X PyProof.Rows PySem.Spec PySem.Calls
set_option maxRecDepth 100000
set_option maxHeartbeats 0
set_option linter.unusedVariables false
set_option linter.unusedSimpArgs false
section
variable {w : World} {h₀ G : Heap} {L : Nat} {m : Str → Option Value} {c : Nat → Option Value} {p16 p107 : Array Value} {A : Around} {E : Value → Shared → Prop} {s : Shared}
theorem st3 (hh : A.handled = none) (hd : A.depth ≤ 328) (hu : A.units ≤ 100) (F : LF w h₀ G L s.heap m c #[] p107) :
    wpAny (model Challenge.rw_mg0016_01.prog w) A (exec (lS 3) (lE L)) (fun f s' => ∃ C p16, Left w h₀ L s m (fun j => if j = 3 then some (.ref (C + 111)) else c j) p16 p107 G (fun G' => IsK G' C) f s') E s := by
  have X := F.bs
  have bl := F.bl
  refine wpAny_Assign_Name ?_ (by with_unfolding_all rfl)
  refine wpAny_Call_NameR (eG (v := .ref 21) X (cwF (w := w) (spliced_cons (eG (v := .ref 98) X (spliced_nil ⟨X, ?_⟩)))))
  obtain ⟨sl4, e4⟩ := F.m4
  obtain ⟨mb, hB, eB⟩ := X.B
  refine s_weak (B := Az 9) ?_ hh hd rfl rfl hu
  refine t5x w 9 s _ _ mb sl4 (by decide) X.X F.t16 (F.gh _ _ e4) hB ((eB _ (by decide +kernel)).trans (by kernel_rfl)) ((eB _ (by decide +kernel)).trans (by kernel_rfl)) fun C h' t' k old hps hC hz hK => ?_
  obtain ⟨ps, hps⟩ := hps
  have kG : Kp G h' := fun b o e => k b o (fun q => by rw [q, F.g16] at e; cases e) (F.gh b o e)
  obtain ⟨oL, eL, _⟩ := LCg.ns_obj F.ns
  have F' : LF w h₀ (mix G s.heap h') L h' m c ps p107 := by
    refine ⟨F.ns.at' fun o e => k _ o (by show L ≠ 16; lia) e, mix_kp, mix_none eL F.gL, fun i hi => ?_, fun i hi => ?_, hps, k _ _ (by decide) F.t107, mix_none F.t16 F.g16, mix_none F.t107 F.g107, fun b o q1 q2 e => mix_old kG _ _ (F.og b o q1 q2 e), F.X.keeps (mix_old kG), ⟨sl4, mix_old kG _ _ e4⟩, bl⟩
    · obtain ⟨o, e, d⟩ := F.cl i hi
      exact ⟨o, k _ _ (by show L + 1 + i ≠ 16; lia) e, d⟩
    · obtain ⟨o, e, d⟩ := F.cl i hi
      exact mix_none e (F.gc i hi)
  refine LF.stC (s := { s with heap := h', toks := t' }) (i := 3) F' fun h₅ F₅ => ?_
  exact ⟨C, ps, rfl, h₅, _, _, rfl, F₅, mix_old kG, hK _ fun b o q e => mix_new q e⟩
end
end
end Mine
namespace Mine
section
open PySem PySem.W PySem.W.X PyProof.Rows PySem.Spec PySem.Calls
set_option maxRecDepth 100000
set_option maxHeartbeats 0
set_option linter.unusedVariables false
set_option linter.unusedSimpArgs false
section
variable {prog : Program} {w : World} {A : Around} {E : Value → Shared → Prop} {s : Shared} {env : Env}
/-- a comprehension over a list of pairs, two names its target -/
theorem lcT_ {elt iter : Expr} {elts : List Expr} {x1 : Nat} {tp : Pos} {scope : Scope} {cl : List (Str × Addr)} {pos : Pos} {Q : Value → Shared → Prop}
    (hclos : closureFor scope env = pure cl) (hcell : ∀ y ∈ scope.names, y.2 ≠ .cell) (hkind : scope.kind = .function) (hnames : ∀ y ∈ scope.names, y.2 = .local → scope.names.lookup y.1 = some .local)
    (h : wpAny (model prog w) A (eval iter env) (fun xv s₁ => ∃ ax its n P G J Bd, xv = .ref ax ∧ s₁.heap.IsList ax its ∧ its.size = n ∧ (∀ i v, its[i]? = some v → P i v) ∧ (∀ i v, P i v → ∃ T, v = .ref T) ∧ LcGo prog w A env elt (.Tuple elts x1 tp) [] scope cl Q s₁ n P G J Bd) E s)
    (hs : ∀ x, foldedSetIterable iter env x = pure x := by intro _; rfl) :
    wpAny (model prog w) A (eval (.ListComp elt [⟨.Tuple elts x1 tp, iter, [], 0⟩] scope pos) env) Q E s := by
  rw [eval_ListComp]
  refine wpAny_comprehension_free (use := none) rfl hs hclos hkind hnames (wpAny_mono h (fun xv s₁ h₁ => ?_) fun _ _ e => e)
  obtain ⟨ax, its, n, P, G, J, Bd, rfl, hl, rfl, hP, hR, L⟩ := h₁
  have up : ∀ o, Kp s₁.heap (s₁.heap.push o) := fun o => kp_push _ o
  have hlt : ax < s₁.heap.objs.size := by obtain ⟨_, e, _⟩ := hl; exact Heap.lt_size e
  refine wpAny_pyIter_list hl ?_
  have W : Walks prog w A s₁.heap.objs.size [s₁.heap.objs.size, ax] [s₁.heap.objs.size] its.size P (fun i h => h.IsListIter s₁.heap.objs.size ax i ∧ h.IsList ax its) :=
    let W := Walks.list (prog := prog) (w := w) L.hh s₁.heap.objs.size ax (Nat.ne_of_lt hlt) its
    { sub := W.sub, frame := W.frame, done := W.done, self := W.self, item := fun i s Q E hi st hQ => W.item i s Q E hi st fun v h' tk hp => hQ v h' tk (hP i v hp) }
  refine lc_block (s := s₁) (s₂ := { s₁ with heap := s₁.heap.push { cls := .type "list_iterator", data := .fields #[.ref ax, .int 0 0] } }) W L.sz (fun i h st => by obtain ⟨o, e, _⟩ := st.1; exact ⟨o, e⟩) hcell hkind ⟨⟨_, Heap.get?_push_size _ rfl, rfl, rfl⟩, hl.push _⟩ (fun b hb => ?_) (Kp.trans L.hG (up _)) (kp_none L.hG (Heap.get?_none_of_le (Nat.le_refl _))) L.mono L.zero
    ⟨Nat.le_refl _, up _, _, rfl⟩ (fun i v s' Q' E' hp st hq => ?_) L.asg L.body L.fin
  · show b < (s₁.heap.push _).objs.size
    rw [Heap.size_push]
    rcases List.mem_cons.mp hb with rfl | hb
    · exact Nat.lt_succ_self _
    · rw [List.mem_singleton.mp hb]; exact Nat.lt_succ_of_lt hlt
  · obtain ⟨T, rfl⟩ := hR i v hp
    exact wpAny_letOwnedTupleGo_listiter st.1 hq
theorem asg_pair {a b : Str} {pa pb tp : Pos} {kk : Nat} {scope : Scope} {cl : List (Str × Addr)} {T C : Addr} {x y : Value} {m' : Str → Option Value} {Q' : Unit → Shared → Prop} (hh : A.handled = none) (hkind : scope.kind = .function) (ha : scope.names.lookup a = some .local) (hb : scope.names.lookup b = some .local) (hn : s.heap.Ns C m')
    (ht : s.heap.IsTuple T #[x, y]) (h : ∀ h' m₂ tk, m₂ b = some y → h'.Ns C m₂ → (∀ b o, b ≠ C → s.heap.get? b = some o → h'.get? b = some o) → Q' () { s with heap := h', toks := tk }) : wpAny (model prog w) A (assign (.Tuple [.Name a pa, .Name b pb] kk tp) (compEnvC scope cl C env) (.ref T)) Q' E s :=
  kcp_assign hh ht (lookup_relabel_local ha) (lookup_relabel_local hb) (by simp [compEnvC, relabel, hkind]) hn fun h' tk n k => h h' _ tk (if_pos rfl) n k
theorem callL_Lt {a b : Addr} {r1 r2 : List (Int × Int)} {Q : Value → Shared → Prop} (ha : RowAt s.heap a r1) (hb : RowAt s.heap b r2) (hu : A.units + 3 < cLine) (h : Q (.bool (resO .Lt (cmpR r1 r2))) s) : wpAny (model prog w) A (call (.builtin "list.__lt__") [.ref a, .ref b]) Q E s := by
  obtain ⟨ys1, ha, h1⟩ := ha
  obtain ⟨ys2, hb, h2⟩ := hb
  have la := (lst_list ha).typeIs
  have lb := (lst_list hb).typeIs
  refine wpAny_call (codeAny_call_builtin PySem.F.slot_list_lt.plain PySem.F.entry_list_lt (PySem.F.slot_list_lt.check _ _ _ _ _ _ _ _ la (PySem.F.args_list_lt_2 _ _) ?_))
  show wpAny _ _ (slotArgs "__lt__" 1 ⟨[.ref a, .ref b], []⟩ >>= _) _ _ _
  refine wpAny_bind (wpAny_pure ?_)
  dsimp only
  refine wpAny_bind (wpAny_isInstance (T := "list") (b := true) lb sub_ll ?_)
  rw [if_neg (by simp)]
  rw [if_neg (by decide)]
  exact wpAny_pure ⟨plainId_quiet PySem.MeetsSeq3.plain_eq_loop _, rloop_Lt r1 r2 0 (by show A.units + 2 < cLine; lia) ha hb h1 h2 (Nat.zero_le _) (Nat.zero_le _) h⟩
theorem oneLt_row {a b : Addr} {r1 r2 : List (Int × Int)} {Q : Bool → Shared → Prop} (ha : RowAt s.heap a r1) (hb : RowAt s.heap b r2) (hu : A.units + 3 < cLine) (h : Q (resO .Lt (cmpR r1 r2)) s) : wpAny (model prog w) A (oneLt' true (.ref a) (.ref b)) Q E s := by
  have la : s.TypeIs (.ref a) "list" := by obtain ⟨ys1, ha, h1⟩ := ha; exact (lst_list ha).typeIs
  rw [oneLt'_eq]
  simp only [if_true]
  refine wpAny_bind (wpAny_cRoomFor (by lia) ?_)
  refine wpAny_bind (wpAny_callSpecialIfBound?_slot la PySem.F.slot_list_lt (callL_Lt ha hb hu ?_))
  exact wpAny_truthy_bool h
theorem row_same {h : Heap} {a : Addr} {r1 r2 : List (Int × Int)} (ha : RowAt h a r1) (hb : RowAt h a r2) : r1 = r2 := by
  obtain ⟨ys1, e1, h1⟩ := ha
  obtain ⟨ys2, e2, h2⟩ := hb
  rw [e1] at e2
  have e : ys1 = ys2 := by
    have := Option.some.inj e2
    injection this with _ _ q _
    injection q with q _
    simpa using q
  subst e
  clear e1 e2
  induction h1 generalizing r2 with
  | nil => cases h2; rfl
  | cons p _ ih =>
    cases h2 with
    | cons q r =>
      obtain ⟨T, ta, tb, rfl, e1⟩ := p
      obtain ⟨T', tc, td, e, e2⟩ := q
      cases e
      rw [e1] at e2
      have := Option.some.inj e2
      injection this with _ _ q _
      injection q with q _
      simp only [Array.mk.injEq, List.cons.injEq, Value.int.injEq] at q
      obtain ⟨⟨a1, _⟩, ⟨a2, _⟩, _⟩ := q
      rw [ih r, Prod.ext a1 a2]
theorem eqB_row {a b : Addr} {r1 r2 : List (Int × Int)} {Q : Bool → Shared → Prop} (ha : RowAt s.heap a r1) (hb : RowAt s.heap b r2) (hu : A.units + 3 < cLine)
    (h : Q (resO .Eq (cmpR r1 r2)) s) : wpAny (model prog w) A (eqBool (.ref a) (.ref b)) Q E s := by
  unfold eqBool
  refine wpAny_holding ?_
  show wpAny _ _ (if (Value.ref a == Value.ref b) = true then _ else _) Q E s
  by_cases hab : (Value.ref a == Value.ref b) = true
  · rw [if_pos hab]
    have e : a = b := by have := eq_of_beq hab; injection this
    subst e
    rw [row_same ha hb, cmpR_eq_iff.mpr rfl] at h
    exact wpAny_bind (wpAny_rule (wpAny_pure h))
  · rw [if_neg hab]
    refine wpAny_bind ?_
    show wpAny _ _ (compareOp .Eq (.ref a) (.ref b)) _ _ _
    exact row_Eq ha hb hu (wpAny_truthy_bool h)
end
/-- the names in order, like ones by their places -/
noncomputable def c2 (nm : Nat → Str) (i j : Nat) : Bool := cN nm i j || (!(cN nm j i) && decide (i < j))
theorem c2_iff {nm : Nat → Str} {i j : Nat} : c2 nm i j = true ↔ TT (cN nm) i j := by
  unfold c2 TT
  simp [Bool.or_eq_true, Bool.and_eq_true]
theorem c2_no {nm : Nat → Str} {i j : Nat} : c2 nm i j = false ↔ ¬ TT (cN nm) i j := by
  rw [← c2_iff]; simp
theorem c2_sw (nm : Nat → Str) : SW (c2 nm) := by
  have W := cN_sw nm
  refine ⟨fun i j h => ?_, fun i j k h1 h2 => ?_⟩
  · rw [c2_iff] at h
    rw [c2_no]
    exact fun h' => TT.irr W (TT.trans W h h')
  · rw [c2_no] at h1 h2 ⊢
    intro h
    by_cases e1 : i = j
    · subst e1; exact h2 h
    by_cases e2 : j = k
    · subst e2; exact h1 h
    have a1 := (TT.total (c := cN nm) e1).resolve_left h1
    have a2 := (TT.total (c := cN nm) e2).resolve_left h2
    exact TT.irr W (TT.trans W h (TT.trans W a2 a1))
theorem c2_inv {nm : Nat → Str} {p : Array Nat} {n N : Nat} (I : Inv (c2 nm) N p n) : Inv (cN nm) N p n := by
  refine ⟨I.size, I.bd, I.id, fun a b h1 h2 => ?_⟩
  rcases I.srt a b h1 h2 with h | ⟨h, l⟩
  · exact c2_iff.mp h
  · exact (TT.total (c := cN nm) (Nat.ne_of_lt l)).resolve_right (c2_no.mp h)
theorem c2_eq (nm : Nat → Str) (i j : Nat) : c2 nm i j = match cmpR (rowV (nm i)) (rowV (nm j)) with | .lt => true | .eq => decide (i < j) | .gt => false := by
  unfold c2
  rw [cN_eq, cN_eq, cmpR_swap (rowV (nm i)) (rowV (nm j))]
  cases cmpR (rowV (nm i)) (rowV (nm j)) <;> simp [Ordering.swap]
noncomputable def PairOf (h : Heap) (nm : Nat → Str) (k : Nat) (v : Value) : Prop := ∃ T d t, v = .ref T ∧ IsTup h T #[.ref d, .int (k : Nat) t] ∧ RowAt h d (rowV (nm k))
theorem PairOf.keeps {h h' : Heap} {nm : Nat → Str} {k : Nat} {v : Value} (x : PairOf h nm k v) (kp : Kp h h') : PairOf h' nm k v := by
  obtain ⟨T, d, t, rfl, a, b⟩ := x
  exact ⟨T, d, t, rfl, a.keeps kp, b.keeps kp⟩
noncomputable def PairsAt (h : Heap) (nm : Nat → Str) (ys : List Value) : Prop := ys.length = 7 ∧ ∀ k, k < 7 → ∃ v, ys[k]? = some v ∧ PairOf h nm k v
theorem tups_of {h : Heap} : ∀ {vs : List Value}, (∀ v ∈ vs, ∃ nm k, PairOf h nm k v) → ∃ fs, KatTups h vs fs ∧ fs.length = vs.length ∧ ∀ f ∈ fs, ∃ d r, f = .ref d ∧ RowAt h d r
  | [], _ => ⟨[], trivial, rfl, fun _ hm => nomatch hm⟩
  | v :: vs, hv => by
    obtain ⟨nm, k, T, d, t, rfl, ⟨o, ho, hc, n, hd⟩, hr⟩ := hv v (.head _)
    obtain ⟨fs, hK, hl, hf⟩ := tups_of fun v hm => hv v (.tail _ hm)
    refine ⟨.ref d :: fs, KatTups.cons ho hc hd rfl hK, by simp [hl], fun f hm => ?_⟩
    rcases List.mem_cons.mp hm with rfl | hm
    · exact ⟨d, _, rfl, hr⟩
    · exact hf f hm
section
variable {prog : Program} {w : World} {A : Around} {E : Value → Shared → Prop} {s : Shared} {nm : Nat → Str}
theorem lt_pair {i j : Nat} {u v : Value} {Q : Bool → Shared → Prop} (hi : PairOf s.heap nm i u) (hj : PairOf s.heap nm j v) (hu : A.units + 3 < cLine) (h : Q (c2 nm i j) s) : wpAny (model prog w) A (keyLt' (tuples' true) u v) Q (fun _ _ => False) s := by
  obtain ⟨T, d, t, rfl, ⟨o, ho, _, n, hd⟩, hr⟩ := hi
  obtain ⟨T', d', t', rfl, ⟨o', ho', _, n', hd'⟩, hr'⟩ := hj
  rw [c2_eq] at h
  refine kat_lt ho hd ho' hd' ?_
  show KatLex prog w A true false Q [(Value.ref d, Value.ref d'), (.int (i : Nat) t, .int (j : Nat) t')] 0 s
  refine kat_cons (eqB_row hr hr' hu ?_)
  cases e : cmpR (rowV (nm i)) (rowV (nm j)) with
  | eq =>
    rw [e] at h
    refine kat_yes (kat_cons (wpAny_eqBool_int ?_))
    cases e2 : (((i : Nat) : Int) == ((j : Nat) : Int)) with
    | true =>
      have : i = j := by have := beq_iff_eq.mp e2; lia
      subst this
      refine kat_yes (kat_nil ?_)
      simpa using h
    | false =>
      refine kat_no ?_
      show wpAny _ _ (oneLt' false _ _) _ _ _
      refine kat_one _ _ (P.lt_int ?_)
      show Q (decide (((i : Nat) : Int) < ((j : Nat) : Int))) s
      rw [show decide (((i : Nat) : Int) < ((j : Nat) : Int)) = decide (i < j) from decide_eq_decide.mpr (by lia)]
      exact h
  | lt =>
    rw [e] at h
    refine kat_no ?_
    show wpAny _ _ (oneLt' true _ _) _ _ _
    refine oneLt_row hr hr' hu ?_
    rw [e]; exact h
  | gt =>
    rw [e] at h
    refine kat_no ?_
    show wpAny _ _ (oneLt' true _ _) _ _ _
    refine oneLt_row hr hr' hu ?_
    rw [e]; exact h
theorem sortedP {l L : Addr} {vs : List Value} {m : Str → Option Value} {Q : Value → Shared → Prop} (rm : Rm A 6) (hn : s.heap.Ns L m) (hl : s.heap.IsList l vs.toArray) (hp : ∀ h, KpB L s.heap h → PairsAt h nm vs)
    (fin : ∀ D c h' tk p, KpB L s.heap h' → h'.Ns L m → s.heap.get? D = none → h'.get? D = some (seqObj "list" (List.toArray (p.toList.map fun i => vs.getD i Value.none)) c) → Inv (cN nm) 7 p 7 → Q (.ref D) { s with heap := h', toks := tk }) :
    wpAny (model prog w) A (call (.builtin "sorted") [.ref l]) Q E s := by
  have h7 := (hp s.heap fun _ _ _ e => e).1
  refine kat_sorted (h₀ := nilH s.heap) (L := L) (m := m) (vs := vs) (news := allBut s.heap [L]) (fr0 hn) (news0 fun p hp => ?_) hl (by lia) (by lia) fun D e1 h' F' N' l1 => ?_
  · have := mem_allBut.mp hp
    exact ⟨this.2, fun q => this.1 (by rw [q]; exact .head _)⟩
  have k1 : KpB L s.heap h' := fun b o q e => (N' (b, o) (.tail _ (mem_allBut.mpr ⟨by simp [q], e⟩))).1
  have hD := N' _ (.head _)
  dsimp only at hD
  have nD : s.heap.get? D = none := by
    cases q : s.heap.get? D with
    | none => rfl
    | some o => exact absurd (l1 (D, o) (mem_allBut.mpr ⟨by simp [hD.2.1], q⟩)) (Nat.lt_irrefl _)
  have P1 := hp h' k1
  obtain ⟨fs, hK, hfl, hf⟩ := tups_of (h := h') (vs := vs) fun v hv => by
    obtain ⟨i, hi, e⟩ := List.getElem_of_mem hv
    obtain ⟨v', e', hP⟩ := P1.2 i (by lia)
    rw [List.getElem?_eq_getElem hi, e] at e'
    cases e'
    exact ⟨nm, i, hP⟩
  refine kat_kind (s := { s with heap := h' }) (T := .type "list") hK (by lia) (fun f hm => ?_) (by simp) ?_
  · obtain ⟨d, r, rfl, ⟨ys, e, _⟩⟩ := hf f hm
    exact (Looks.ld e).andThen .now
  rw [show vs.length = 7 from h7]
  have gv : ∀ i, i < 7 → ∀ h, KpB L s.heap h → PairOf h nm i (vs.getD i Value.none) := fun i hi h k => by
    obtain ⟨v, e, hP⟩ := (hp h k).2 i hi
    rw [List.getD_eq_getElem?_getD, e]; exact hP
  refine sort_ (Ok := fun s' => s' = { s with heap := h' }) (c2_sw nm) (fun i j C' s' hi hj ok hq => ?_) (by lia) rfl fun p s' ok I => ?_
  · subst ok
    unfold kas_ask
    refine lt_pair (s := { s with heap := h' }) (gv i hi h' k1) (gv j hj h' k1) ?_ (hq _ rfl)
    have := rm.u
    show A.units + 1 + 1 + 3 < cLine
    lia
  · subst ok
    refine KasFin.intro (news := (D, seqObj "list" #[] e1) :: allBut h' [L, D]) (g := fun o => (D, o) :: allBut h' [L, D]) (fr0 F'.ns) (news0 fun p hp => ?_) (UpdF.head fun p hp => ?_) fun h6 c6 F6 N6 => ?_
    · rcases List.mem_cons.mp hp with rfl | hp
      · exact ⟨hD.1, hD.2.1⟩
      · have := mem_allBut.mp hp
        exact ⟨this.2, fun q => this.1 (by rw [q]; exact .head _)⟩
    · have := mem_allBut.mp hp
      exact fun q => this.1 (by rw [q]; exact .tail _ (.head _))
    have k6 : ∀ b o, b ≠ L → b ≠ D → h'.get? b = some o → h6.get? b = some o := fun b o q1 q2 e => (N6 (b, o) (.tail _ (mem_allBut.mpr ⟨by simp [q1, q2], e⟩))).1
    exact fin D c6 h6 s.toks p (fun b o q e => k6 b o q (fun z => by rw [z, nD] at e; cases e) (k1 b o q e)) F6.ns nD (N6 _ (.head _)).1 (c2_inv I)
end
end
end Mine
namespace Mine
section
open PySem PySem.W PySem.W.X PyProof.Rows PySem.Spec PySem.Calls
set_option maxRecDepth 100000
set_option maxHeartbeats 0
set_option linter.unusedVariables false
set_option linter.unusedSimpArgs false
section
variable {w : World} {h₀ G : Heap} {L : Nat} {m : Str → Option Value} {c : Nat → Option Value} {p16 p107 : Array Value} {A : Around} {E : Value → Shared → Prop} {s : Shared}
/-- sorted([(rows[j], j) for j in range(7)]) -/
theorem pairs_ {b : Addr} {nm : Nat → Str} {Q : Value → Shared → Prop} (r : Rm A 8) (F : LF w h₀ G L s.heap m c p16 p107) (c1 : c 1 = some (.ref b)) (HR : RowsAt G b nm)
    (hQ : ∀ D h' tk G' ys, LF w h₀ G' L h' m c p16 p107 → Kp G G' → G'.get? D = some (lst ys) → PairsAt G' nm ys → Q (.ref D) { s with heap := h', toks := tk }) :
    wpAny (model Challenge.rw_mg0016_01.prog w) A (eval (.ListComp (.Tuple [.Subscript (.Name (nn "rows") ⟨108, 44, 108, 48⟩) (.Name (nn "j") ⟨108, 49, 108, 50⟩) ⟨108, 44, 108, 51⟩, .Name (nn "j") ⟨108, 53, 108, 54⟩] 0 ⟨108, 43, 108, 55⟩)
      [⟨.Name (nn "j") ⟨108, 60, 108, 61⟩, .Call (.Name (nn "range") ⟨108, 65, 108, 70⟩) [.Constant (.int 7) 0 ⟨108, 71, 108, 72⟩] [] ⟨108, 65, 108, 73⟩, [], 0⟩]
      { kind := .function, names := [(nn ".0", .local), (nn "j", .local), (nn "rows", .free)], isGenerator := false, isCoroutine := false, more := [] } ⟨108, 42, 108, 74⟩) (lE L)) Q E s := by
  obtain ⟨rs, ers, rsl, rsr⟩ := HR
  refine lc_ (cl := [(nn "rows", L + 2)]) (by with_unfolding_all rfl) (by decide +kernel) (by rfl) (by decide +kernel) (by intro _ _; rfl) ?_
  refine rangeE (n := 7) F.bs (wpAny_Constant_int ⟨_, _, rfl, rfl, fun h₁ tk₁ ra t1 t2 t3 k₁ hra hr => ?_⟩)
  refine ⟨7, fun i v => ∃ t, v = Value.int (i : Nat) t, G, fun i ys G' => ys.length = i ∧ ∀ k, k < i → ∃ v, ys[k]? = some v ∧ PairOf G' nm k v, _, .inr ⟨ra, 0, t1, t2, t3, rfl, hr, by decide +kernel, by decide +kernel, fun i t => ⟨t, by rw [Int.zero_add]⟩⟩,
    LcGo.name r.hh (by lia) (Kp.trans F.gh k₁) (fun i ys G G' h k => ⟨h.1, fun j hj => ?_⟩) ⟨rfl, fun _ h => absurd h (Nat.not_lt_zero _)⟩ rfl (by kernel_rfl) ?_ ?_⟩
  · obtain ⟨v, e, q⟩ := h.2 j hj; exact ⟨v, e, q.keeps k⟩
  · rintro i v ys G₁ h tk C m₂ E' hi' ⟨tz, rfl⟩ ⟨j1, j2⟩ g1 g2 k₃ hn hx
    dsimp only at k₃
    have k₄ : Kp s.heap h := Kp.trans k₁ k₃
    have cn : h.IsCell (L + 2) (some (.ref b)) := by have := cell_kp (F.cl 1 (by decide)) k₄; rw [c1] at this; exact this
    have ln : h.IsList b rs.toArray := lst_list (g2 _ _ (g1 _ _ ers))
    obtain ⟨d, ed, hrow⟩ := rsr i hi'
    refine tupE (spliced_cons (Subscript_ (eC (a := L + 2) cn (eL (v := .int (i : Nat) tz) hn hx (itemL (x := .ref d) ln (by lia) (by simpa using ed) (spliced_cons (eL (v := .int (i : Nat) tz) hn hx (spliced_nil ⟨Nat.le_of_ble_eq_true rfl, fun h₅ T k₅ nT hT => ?_⟩))))))))
    dsimp only at k₅ nT
    refine ⟨h₅, _, rfl, k₅, fun G₂ k₂ n₂ => ⟨by rw [List.length_append, List.length_singleton, j1], fun k hk => ?_⟩⟩
    rcases get_snoc (v := .ref T) j1 hk with ⟨hk, e⟩ | ⟨rfl, e⟩
    · obtain ⟨v, e', q⟩ := j2 k hk
      exact ⟨v, e.trans e', q.keeps k₂⟩
    · obtain ⟨oT, eT, qT⟩ := hT
      exact ⟨_, e, T, d, tz, rfl, ⟨oT, n₂ _ _ nT eT, qT⟩, hrow.keeps (Kp.trans g1 k₂)⟩
  · intro D ys h' tk' G' k₄ hD g1 g2 gD ⟨j1, j2⟩ hn
    exact hQ D h' tk' G' ys (F.grow (Kp.trans k₁ k₄) g1 g2 fun b o e g => hn b o (k₁ b o e) g) g1 gD ⟨j1, j2⟩
theorem pair_one {h : Heap} {nm : Nat → Str} {k k' : Nat} {v : Value} (a : PairOf h nm k v) (b : PairOf h nm k' v) : k = k' := by
  obtain ⟨T, d, t, rfl, ⟨o, e1, _, n, d1⟩, _⟩ := a
  obtain ⟨T', d', t', e, ⟨o', e2, _, n', d2⟩, _⟩ := b
  cases e
  rw [e1] at e2
  cases e2
  rw [d1] at d2
  injection d2 with q _
  simp only [Array.mk.injEq, List.cons.injEq, Value.int.injEq] at q
  lia
theorem st4 {b : Addr} {nm : Nat → Str} (r : Rm A 8) (F : LF w h₀ G L s.heap m c p16 p107) (c1 : c 1 = some (.ref b)) (HR : RowsAt G b nm) :
    wpAny (model Challenge.rw_mg0016_01.prog w) A (exec (lS 4) (lE L)) (fun f s' => ∃ d, Left w h₀ L s m (fun j => if j = 2 then some (.ref d) else c j) p16 p107 G (fun G' => DueAt G' d nm) f s') E s := by
  refine wpAny_Assign_Name ?_ (by with_unfolding_all rfl)
  refine lcT_ (cl := []) (by with_unfolding_all rfl) (by decide +kernel) (by rfl) (by decide +kernel) ?_
  refine wpAny_Call_NameR (eB (v := .builtin "sorted") F.bs (cwB (spliced_cons (pairs_ r F c1 HR fun D h' tk G' ys F' gg eD hP => spliced_nil ?_))))
  refine sortedP (s := { s with heap := h', toks := tk }) (L := L) (m := m) (nm := nm) (r.le (by lia)) F'.ns (lst_list (F'.gh _ _ eD)) (fun h k => ⟨hP.1, fun i hi => by obtain ⟨v, e, q⟩ := hP.2 i hi; exact ⟨v, e, q.keeps (F'.solid k)⟩⟩) fun D2 cc h2 tk2 p k2 n2 nD2 eD2 I => ?_
  dsimp only at k2 nD2
  have F2 := F'.kpB k2 n2
  have zp : p.size = 7 := I.size
  have at_ : ∀ i v, (List.toArray (p.toList.map fun i => ys.getD i Value.none))[i]? = some v → i < 7 ∧ PairOf G' nm (p.getD i 0) v := by
    intro i v e
    have e' : (p.toList.map fun i => ys.getD i Value.none)[i]? = some v := by simpa using e
    have hi : i < 7 := by
      have := (List.getElem?_eq_some_iff.mp e').1
      rw [List.length_map, Array.length_toList] at this; lia
    have hp : i < p.size := by lia
    rw [List.getElem?_map, Array.getElem?_toList, Array.getElem?_eq_getElem hp] at e'
    obtain ⟨v', ev, hv⟩ := hP.2 (p.getD i 0) (I.bd i hi)
    have e3 : p.getD i 0 = p[i] := by simp [Array.getD, hp]
    have e4 : ys.getD p[i] Value.none = v := Option.some.inj e'
    rw [← e3, List.getD_eq_getElem?_getD, ev] at e4
    rw [← e4]
    exact ⟨hi, hv⟩
  refine ⟨D2, List.toArray (p.toList.map fun i => ys.getD i Value.none), 7, fun i v => i < 7 ∧ PairOf G' nm (p.getD i 0) v, G', fun i zs _ => zs.length = i ∧ ∀ k, k < i → ∃ t, zs[k]? = some (Value.int (p.getD k 0 : Nat) t), fun v m₂ => ∀ k, PairOf G' nm k v → ∃ t, m₂ (nn "place") = some (.int (k : Nat) t), rfl, ⟨_, eD2, rfl, _, rfl⟩,
    by rw [List.size_toArray, List.length_map, Array.length_toList, zp], at_, fun i v hp => by obtain ⟨_, T, _, _, e, _⟩ := hp; exact ⟨T, e⟩, r.hh, by lia, F2.gh, fun _ _ _ _ h _ => h, ⟨rfl, fun _ h => absurd h (Nat.not_lt_zero _)⟩, ?_, ?_, ?_⟩
  · rintro i v C s' m' E' Q' ⟨hi, hv⟩ kG hn h
    obtain ⟨T, d, t, rfl, hT, hr⟩ := id hv
    refine asg_pair r.hh rfl (by kernel_rfl) (by kernel_rfl) hn (hT.keeps kG) fun h' m₂ tk e n k => h h' m₂ tk (fun k' hk' => ?_) n k
    rw [← pair_one hv hk']
    exact ⟨t, e⟩
  · rintro i v zs G₁ h tk C m₂ E' hi ⟨_, hv⟩ ⟨j1, j2⟩ g1 g2 k3 hn bd
    obtain ⟨t, e⟩ := bd _ hv
    refine wpAny_tests_nil ?_
    rw [if_pos rfl]
    refine eL (v := .int (p.getD i 0 : Nat) t) hn e ⟨h, tk, rfl, Kp.refl _, fun _ _ _ => ⟨by rw [List.length_append, List.length_singleton, j1], fun k hk => ?_⟩⟩
    rcases get_snoc (v := .int (p.getD i 0 : Nat) t) j1 hk with ⟨hk, e⟩ | ⟨rfl, e⟩
    · obtain ⟨t', e'⟩ := j2 k hk
      exact ⟨t', e.trans e'⟩
    · exact ⟨t, e⟩
  · intro D3 zs h3 tk3 G3 k3 hD3 g1 g2 gD ⟨j1, j2⟩ hn
    refine (F2.grow k3 g1 g2 hn).stC (s := { s with heap := h3, toks := tk3 }) (i := 2) fun h₅ F₅ => ?_
    exact ⟨D3, rfl, h₅, _, G3, rfl, F₅, Kp.trans gg g1, zs, gD, p, I, j1, j2⟩
end
end
end Mine
namespace Mine
section
open PySem PySem.W PySem.W.X PyProof.Rows PySem.Spec PySem.Calls
set_option maxRecDepth 100000
set_option maxHeartbeats 0
set_option linter.unusedVariables false
set_option linter.unusedSimpArgs false
theorem IsI.aside {h h' : Heap} {C : Nat} {x I : Addr} {nm : Str} {o : Obj} (i : IsI h C x nm) (hI : h.get? I = some o) (hd : (∃ vs, o.data = .fields vs) ∨ ∃ xs n, o.data = .seq xs n) (k : ∀ b o, b ≠ I → h.get? b = some o → h'.get? b = some o) : IsI h' C x nm := by
  obtain ⟨dx, u, e1, e2⟩ := i
  refine ⟨dx, u, k _ _ (fun q => ?_) e1, k _ _ (fun q => ?_) e2⟩
  · rw [q, hI] at e1
    cases e1
    rcases hd with ⟨vs, d⟩ | ⟨xs, n, d⟩ <;> cases d
  · rw [q, hI] at e2
    cases e2
    rcases hd with ⟨vs, d⟩ | ⟨xs, n, d⟩ <;> cases d
theorem gt_cN (nm : Nat → Str) (i j : Nat) : decide (ordV (nm i) (nm j) > 0) = cN nm j i := by
  rw [cN_eq, cmpR_swap, ← ord_rows]
  rcases Int.lt_trichotomy (ordV (nm i) (nm j)) 0 with l | l | l
  · rw [ci_lt l, decide_eq_false (by lia)]; rfl
  · rw [l, ci_eq]; rfl
  · rw [ci_gt l, decide_eq_true (by lia)]; rfl
noncomputable abbrev rangeSt (I : Addr) (i : Nat) (h : Heap) : Prop := IsRangeIter h I (0 + (i : Nat) * 1) (((7 : Nat) : Int) - (i : Nat)) 1
section
variable {prog : Program} {w : World} {A : Around} {E : Value → Shared → Prop} {s : Shared} {L f : Addr} {C : Nat} {nm : Nat → Str}
theorem minLoop {I S : Addr} {R : Result → Shared → Prop} (OC : OrdC prog w ordV) (rm : Rm A 12) (key : KeyC prog w s L f C nm) (HK : IsK s.heap C) (HB : Bs w s.heap) (ln : ∀ i, i < 7 → (nm i).length ≤ 6) (nI : s.heap.get? I = none) (nS : s.heap.get? S = none) (SI : S ≠ I)
    (hR : ∀ i t h' tk', i < 7 → (∀ j, j < 7 → cN nm j i = false ∧ (j < i → cN nm i j = true)) → Kp s.heap h' → R (.ok (.ret (.int (i : Nat) t))) { s with heap := h', toks := tk' }) :
    ∀ (r j i : Nat) (h : Heap) (tk : Nat) (xi : Addr) (ti : Tok) (c : Nat), 7 - (j + 1) = r → j + 1 ≤ 7 → rangeSt I (j + 1) h → h.get? S = some (seqObj "list" #[.int (i : Nat) ti, .ref xi] c) → IsI h C xi (nm i) → Kp s.heap h → i ≤ j →
      (∀ j', j' ≤ j → cN nm j' i = false ∧ (j' < i → cN nm i j' = true)) → codeAny (model prog w) A (.builtin "min.loop" ⟨[.ref I, .ref f, .ref S], []⟩) R { s with heap := h, toks := tk } := by
  have hname : (toString "min" ++ toString ".loop" : String) = "min.loop" := by decide
  have W := LCg.range_walks (prog := prog) (w := w) (A := A.in1) (I := I) rm.hh 0 7
  have neI : ∀ b o, s.heap.get? b = some o → b ≠ I := fun b o e q => by rw [q, nI] at e; cases e
  have neS : ∀ b o, s.heap.get? b = some o → b ≠ S := fun b o e q => by rw [q, nS] at e; cases e
  intro r
  induction r with
  | zero =>
    intro j i h tk xi ti c hr hj st hS hI k hij best
    have hj7 : j + 1 = 7 := by lia
    refine codeAny_builtin PySem.F.entry_min_loop ?_
    rw [Around.under_plainId PySem.F.plain_min_loop _]
    show wpAny _ A.in1 (seqItems? (.ref S) >>= _) _ _ _
    refine wpAny_bind (wpAny_seqItems hS rfl ?_)
    show wpAny _ A.in1 (tryCatch (pyNext (.ref I)) _ >>= _) _ _ _
    refine wpAny_bind (wpAny_tryCatch (W.done _ _ _ (by rw [hj7] at st; exact st) fun h' tk' hk' => ?_))
    dsimp only at hk' ⊢
    have hS' := hk' S _ (by simpa using SI) hS
    show wpAny _ A.in1 (updateSeq S (fun _ => #[]) >>= _) _ _ _
    refine wpAny_bind (wpAny_updateSeq hS' rfl (wpAny_bind (wpAny_letGo (wpAny_pure ?_))))
    have s1 := Heap.SameBut.update h' S (Obj.mapSeq fun _ => (#[] : Array Value))
    exact hR i ti _ _ (by lia) (fun j' hj' => best j' (by lia)) fun b o e => s1.extBut b o (neS b o e) (hk' b o (by simpa using neI b o e) (k b o e))
  | succ r ih =>
    intro j i h tk xi ti c hr hj st hS hI k hij best
    have hlt : j + 1 < 7 := by lia
    refine codeAny_builtin PySem.F.entry_min_loop ?_
    rw [Around.under_plainId PySem.F.plain_min_loop _]
    show wpAny _ A.in1 (seqItems? (.ref S) >>= _) _ _ _
    refine wpAny_bind (wpAny_seqItems hS rfl ?_)
    show wpAny _ A.in1 (tryCatch (pyNext (.ref I)) _ >>= _) _ _ _
    refine wpAny_bind (wpAny_tryCatch (W.item (j + 1) _ _ _ hlt st fun v h' tk' hP st' hk' => ?_))
    dsimp only at hk' st' ⊢
    obtain ⟨tv, rfl⟩ := hP
    have hS' := hk' S _ (by simpa using SI) hS
    have hI' := hI.aside (h' := h') st (.inl ⟨_, rfl⟩) fun b o q e => hk' b o (by simpa using q) e
    have k' : Kp s.heap h' := fun b o e => hk' b o (by simpa using neI b o e) (k b o e)
    have ev : Value.int (0 + ((j + 1 : Nat) : Int)) tv = .int ((j + 1 : Nat) : Int) tv := by rw [Int.zero_add]
    rw [ev]
    show wpAny _ A.in1 (tryCatch (holding [.int ((j + 1 : Nat) : Int) tv] (call (.ref f) [.int ((j + 1 : Nat) : Int) tv])) _ >>= _) _ _ _
    refine wpAny_bind (wpAny_tryCatch (wpAny_holding (key _ (j + 1) tv h' tk' _ _ ((rm.le (by lia : 3 + 1 ≤ 12)).in1) hlt (fun b o _ e => k' b o e) fun x h2 tk2 k2 hx => ?_)))
    have hS2 := k2 _ _ hS'
    have hI2 := hI'.keeps k2
    have k3 : Kp s.heap h2 := Kp.trans k' k2
    have st2 : rangeSt I (j + 1 + 1) h2 := k2 _ _ st'
    show wpAny _ A.in1 (tryCatch (holding [.int ((j + 1 : Nat) : Int) tv, .ref x] (richCompare .Lt (.ref x) (.ref xi) >>= _)) _ >>= _) _ _ _
    refine wpAny_bind (wpAny_tryCatch (wpAny_holding (wpAny_bind ?_)))
    show wpAny _ _ (compareOp .Lt (.ref x) (.ref xi)) _ _ _
    refine c_lt (s := { s with heap := h2, toks := tk2 }) OC ((rm.le (by lia : 10 + 1 ≤ 12)).in1) (HB.keeps k3) (HK.keeps k3) hx hI2 (ln _ hlt) (ln _ (by lia)) fun h3 t3 k4 _ => ?_
    refine wpAny_bind (wpAny_holding (wpAny_truthy_bool ?_))
    refine wpAny_bind (wpAny_letGo (wpAny_pure ?_))
    have hS3 := k4 _ _ hS2
    have hI3 := hI2.keeps k4
    have hx3 := hx.keeps k4
    have k5 : Kp s.heap h3 := Kp.trans k3 k4
    have st3 : rangeSt I (j + 1 + 1) h3 := k4 _ _ st2
    dsimp only
    rw [show decide (ordV (nm (j + 1)) (nm i) < 0) = cN nm (j + 1) i from rfl]
    cases e : cN nm (j + 1) i with
    | true =>
      have s1 := Heap.SameBut.update h3 S (Obj.mapSeq fun _ => #[.int ((j + 1 : Nat) : Int) tv, .ref x])
      obtain ⟨cc, hcc⟩ : ∃ cc, (h3.update S (Obj.mapSeq fun _ => #[.int ((j + 1 : Nat) : Int) tv, .ref x])).get? S = some (seqObj "list" #[.int ((j + 1 : Nat) : Int) tv, .ref x] cc) := ⟨_, get?_update_seq hS3 fun _ => #[.int ((j + 1 : Nat) : Int) tv, .ref x]⟩
      rw [if_pos rfl]
      refine wpAny_bind (wpAny_updateSeq hS3 rfl (wpAny_bind (wpAny_letGo ?_)))
      rw [hname]
      refine wpAny_pure ⟨plainId_quiet PySem.F.plain_min_loop _, ih (j + 1) (j + 1) _ _ x tv cc (by lia) hlt (s1.extBut _ _ (Ne.symm SI) st3) hcc (hx3.aside hS3 (.inr ⟨_, _, rfl⟩) fun b o q e => s1.extBut b o q e) (fun b o e => s1.extBut b o (neS b o e) (k5 b o e)) (Nat.le_refl _) fun j' hj' => ?_⟩
      have W := cN_sw nm
      by_cases e' : j' = j + 1
      · subst e'
        exact ⟨W.irr _, fun h => absurd h (Nat.lt_irrefl _)⟩
      · have b1 := (best j' (by lia)).1
        have b2 : cN nm (j + 1) j' = true := by
          rcases W.or j' e with z | z
          · exact z
          · rw [b1] at z; cases z
        exact ⟨W.asym _ _ b2, fun _ => b2⟩
    | false =>
      rw [if_neg Bool.false_ne_true]
      refine wpAny_bind (wpAny_letGo ?_)
      rw [hname]
      refine wpAny_pure ⟨plainId_quiet PySem.F.plain_min_loop _, ih (j + 1) i _ _ xi ti c (by lia) hlt st3 hS3 hI3 k5 (by lia) fun j' hj' => ?_⟩
      by_cases e' : j' = j + 1
      · subst e'
        exact ⟨e, fun h => absurd h (by lia)⟩
      · exact best j' (by lia)
theorem minK7 {r : Addr} {t1 t2 t3 : Tok} {Q : Value → Shared → Prop} (OC : OrdC prog w ordV) (rm : Rm A 13) (hr : IsRange s.heap r 0 7 1 t1 t2 t3) (key : KeyC prog w s L f C nm) (HK : IsK s.heap C) (HB : Bs w s.heap) (ln : ∀ i, i < 7 → (nm i).length ≤ 6)
    (hQ : ∀ i t h' tk', i < 7 → (∀ j, j < 7 → cN nm j i = false ∧ (j < i → cN nm i j = true)) → Kp s.heap h' → Q (.int (i : Nat) t) { s with heap := h', toks := tk' }) :
    wpAny (model prog w) A (call (.builtin "min") [.ref r] [(Str.ofString "key", .ref f)]) Q E s := by
  have hname : (toString "min" ++ toString ".loop" : String) = "min.loop" := by decide
  refine kmk_tree PySem.F.kind_min PySem.F.plain_min PySem.F.entry_min (kmk_min_key _ _) ?_
  show wpAny _ A.in1 (Builtin.Builtins.bindParams "min" ["key", "default"] 0 ⟨[], [(Str.ofString "key", .ref f)]⟩ >>= _) _ _ s
  refine wpAny_bind (wpAny_of_eq (show Builtin.Builtins.bindParams "min" ["key", "default"] 0 ⟨[], [(Str.ofString "key", .ref f)]⟩ = pure [some (.ref f), none] from rfl) ?_)
  refine wpAny_bind (wpAny_pure ?_)
  refine wpAny_bind (wpAny_pyIter_range hr (by decide +kernel) ?_)
  refine wpAny_bind (wpAny_newList ?_ (Nat.zero_le _))
  rw [hname]
  dsimp only
  have nI : s.heap.get? s.heap.objs.size = none := Heap.get?_none_of_le (Nat.le_refl _)
  have k1 := kp_push s.heap { cls := .type "range_iterator", data := .fields #[rawInt 0, rawInt (Builtin.Range.rangeSize 0 7 1), rawInt 1] }
  have st : rangeSt s.heap.objs.size 0 (s.heap.push { cls := .type "range_iterator", data := .fields #[rawInt 0, rawInt (Builtin.Range.rangeSize 0 7 1), rawInt 1] }) := by
    rw [show Builtin.Range.rangeSize 0 7 1 = 7 by decide +kernel]
    show IsRangeIter _ _ _ _ _
    simpa using Heap.get?_push_size _ rfl
  generalize s.heap.push { cls := .type "range_iterator", data := .fields #[rawInt 0, rawInt (Builtin.Range.rangeSize 0 7 1), rawInt 1] } = h1 at k1 st ⊢
  generalize s.heap.objs.size = I at nI st ⊢
  have nS1 : h1.get? h1.objs.size = none := Heap.get?_none_of_le (Nat.le_refl _)
  have k2 := kp_push h1 { cls := .type "list", data := .seq ([] : List Value).toArray }
  have hS : (h1.push { cls := .type "list", data := .seq ([] : List Value).toArray }).get? h1.objs.size = some (seqObj "list" #[] 0) := Heap.get?_push_size _ rfl
  generalize h1.push { cls := .type "list", data := .seq ([] : List Value).toArray } = h2 at k2 hS ⊢
  generalize h1.objs.size = S at nS1 hS ⊢
  have SI : S ≠ I := fun q => by have : h1.get? I = _ := st; rw [← q, nS1] at this; cases this
  have nS : s.heap.get? S = none := kp_none k1 nS1
  have st2 : rangeSt I 0 h2 := k2 _ _ st
  have k : Kp s.heap h2 := Kp.trans k1 k2
  have neI : ∀ b o, s.heap.get? b = some o → b ≠ I := fun b o e q => by rw [q, nI] at e; cases e
  have neS : ∀ b o, s.heap.get? b = some o → b ≠ S := fun b o e q => by rw [q, nS] at e; cases e
  have W := LCg.range_walks (prog := prog) (w := w) (A := A.in1) (I := I) rm.hh 0 7
  refine wpAny_pure ⟨plainId_quiet PySem.F.plain_min_loop _, ?_⟩
  refine codeAny_builtin PySem.F.entry_min_loop ?_
  rw [Around.under_plainId PySem.F.plain_min_loop _]
  show wpAny _ A.in1 (seqItems? (.ref S) >>= _) _ _ _
  refine wpAny_bind (wpAny_seqItems hS rfl ?_)
  show wpAny _ A.in1 (tryCatch (pyNext (.ref I)) _ >>= _) _ _ _
  refine wpAny_bind (wpAny_tryCatch (W.item 0 _ _ _ (by decide) st2 fun v h' tk' hP st' hk' => ?_))
  dsimp only at hk' st' ⊢
  obtain ⟨tv, rfl⟩ := hP
  have hS' := hk' S _ (by simpa using SI) hS
  have k' : Kp s.heap h' := fun b o e => hk' b o (by simpa using neI b o e) (k b o e)
  rw [show Value.int (0 + ((0 : Nat) : Int)) tv = .int ((0 : Nat) : Int) tv from rfl]
  show wpAny _ A.in1 (tryCatch (holding [.int ((0 : Nat) : Int) tv] (call (.ref f) [.int ((0 : Nat) : Int) tv])) _ >>= _) _ _ _
  refine wpAny_bind (wpAny_tryCatch (wpAny_holding (key _ 0 tv h' tk' _ _ ((rm.le (by lia : 3 + 1 ≤ 13)).in1) (by decide) (fun b o _ e => k' b o e) fun x h3 tk3 k3 hx => ?_)))
  have hS3 := k3 _ _ hS'
  have st3 : rangeSt I (0 + 1) h3 := k3 _ _ st'
  have k4 : Kp s.heap h3 := Kp.trans k' k3
  have s1 := Heap.SameBut.update h3 S (Obj.mapSeq fun _ => #[.int ((0 : Nat) : Int) tv, .ref x])
  obtain ⟨cc, hcc⟩ : ∃ cc, (h3.update S (Obj.mapSeq fun _ => #[.int ((0 : Nat) : Int) tv, .ref x])).get? S = some (seqObj "list" #[.int ((0 : Nat) : Int) tv, .ref x] cc) := ⟨_, get?_update_seq hS3 fun _ => #[.int ((0 : Nat) : Int) tv, .ref x]⟩
  show wpAny _ A.in1 (updateSeq S (fun _ => #[.int ((0 : Nat) : Int) tv, .ref x]) >>= _) _ _ _
  refine wpAny_bind (wpAny_updateSeq hS3 rfl ?_)
  rw [hname]
  refine wpAny_pure ⟨plainId_quiet PySem.F.plain_min_loop _, minLoop OC (rm.le (by lia)) key HK HB ln nI nS SI hQ _ 0 0 _ _ x tv cc rfl (by decide) (s1.extBut _ _ (Ne.symm SI) st3) hcc (hx.aside hS3 (.inr ⟨_, _, rfl⟩) fun b o q e => s1.extBut b o q e) (fun b o e => s1.extBut b o (neS b o e) (k4 b o e)) (Nat.le_refl _) fun j' hj' => ?_⟩
  have e : j' = 0 := by lia
  subst e
  exact ⟨(cN_sw nm).irr _, fun h => absurd h (Nat.lt_irrefl _)⟩
theorem maxLoop {I S : Addr} {R : Result → Shared → Prop} (OC : OrdC prog w ordV) (rm : Rm A 12) (key : KeyC prog w s L f C nm) (HK : IsK s.heap C) (HB : Bs w s.heap) (ln : ∀ i, i < 7 → (nm i).length ≤ 6) (nI : s.heap.get? I = none) (nS : s.heap.get? S = none) (SI : S ≠ I)
    (hR : ∀ i t h' tk', i < 7 → (∀ j, j < 7 → cN nm i j = false ∧ (j < i → cN nm j i = true)) → Kp s.heap h' → R (.ok (.ret (.int (i : Nat) t))) { s with heap := h', toks := tk' }) :
    ∀ (r j i : Nat) (h : Heap) (tk : Nat) (xi : Addr) (ti : Tok) (c : Nat), 7 - (j + 1) = r → j + 1 ≤ 7 → rangeSt I (j + 1) h → h.get? S = some (seqObj "list" #[.int (i : Nat) ti, .ref xi] c) → IsI h C xi (nm i) → Kp s.heap h → i ≤ j →
      (∀ j', j' ≤ j → cN nm i j' = false ∧ (j' < i → cN nm j' i = true)) → codeAny (model prog w) A (.builtin "max.loop" ⟨[.ref I, .ref f, .ref S], []⟩) R { s with heap := h, toks := tk } := by
  have hname : (toString "max" ++ toString ".loop" : String) = "max.loop" := by decide
  have W := LCg.range_walks (prog := prog) (w := w) (A := A.in1) (I := I) rm.hh 0 7
  have neI : ∀ b o, s.heap.get? b = some o → b ≠ I := fun b o e q => by rw [q, nI] at e; cases e
  have neS : ∀ b o, s.heap.get? b = some o → b ≠ S := fun b o e q => by rw [q, nS] at e; cases e
  intro r
  induction r with
  | zero =>
    intro j i h tk xi ti c hr hj st hS hI k hij best
    have hj7 : j + 1 = 7 := by lia
    refine codeAny_builtin PySem.F.entry_max_loop ?_
    rw [Around.under_plainId PySem.F.plain_max_loop _]
    show wpAny _ A.in1 (seqItems? (.ref S) >>= _) _ _ _
    refine wpAny_bind (wpAny_seqItems hS rfl ?_)
    show wpAny _ A.in1 (tryCatch (pyNext (.ref I)) _ >>= _) _ _ _
    refine wpAny_bind (wpAny_tryCatch (W.done _ _ _ (by rw [hj7] at st; exact st) fun h' tk' hk' => ?_))
    dsimp only at hk' ⊢
    have hS' := hk' S _ (by simpa using SI) hS
    show wpAny _ A.in1 (updateSeq S (fun _ => #[]) >>= _) _ _ _
    refine wpAny_bind (wpAny_updateSeq hS' rfl (wpAny_bind (wpAny_letGo (wpAny_pure ?_))))
    have s1 := Heap.SameBut.update h' S (Obj.mapSeq fun _ => (#[] : Array Value))
    exact hR i ti _ _ (by lia) (fun j' hj' => best j' (by lia)) fun b o e => s1.extBut b o (neS b o e) (hk' b o (by simpa using neI b o e) (k b o e))
  | succ r ih =>
    intro j i h tk xi ti c hr hj st hS hI k hij best
    have hlt : j + 1 < 7 := by lia
    refine codeAny_builtin PySem.F.entry_max_loop ?_
    rw [Around.under_plainId PySem.F.plain_max_loop _]
    show wpAny _ A.in1 (seqItems? (.ref S) >>= _) _ _ _
    refine wpAny_bind (wpAny_seqItems hS rfl ?_)
    show wpAny _ A.in1 (tryCatch (pyNext (.ref I)) _ >>= _) _ _ _
    refine wpAny_bind (wpAny_tryCatch (W.item (j + 1) _ _ _ hlt st fun v h' tk' hP st' hk' => ?_))
    dsimp only at hk' st' ⊢
    obtain ⟨tv, rfl⟩ := hP
    have hS' := hk' S _ (by simpa using SI) hS
    have hI' := hI.aside (h' := h') st (.inl ⟨_, rfl⟩) fun b o q e => hk' b o (by simpa using q) e
    have k' : Kp s.heap h' := fun b o e => hk' b o (by simpa using neI b o e) (k b o e)
    have ev : Value.int (0 + ((j + 1 : Nat) : Int)) tv = .int ((j + 1 : Nat) : Int) tv := by rw [Int.zero_add]
    rw [ev]
    show wpAny _ A.in1 (tryCatch (holding [.int ((j + 1 : Nat) : Int) tv] (call (.ref f) [.int ((j + 1 : Nat) : Int) tv])) _ >>= _) _ _ _
    refine wpAny_bind (wpAny_tryCatch (wpAny_holding (key _ (j + 1) tv h' tk' _ _ ((rm.le (by lia : 3 + 1 ≤ 12)).in1) hlt (fun b o _ e => k' b o e) fun x h2 tk2 k2 hx => ?_)))
    have hS2 := k2 _ _ hS'
    have hI2 := hI'.keeps k2
    have k3 : Kp s.heap h2 := Kp.trans k' k2
    have st2 : rangeSt I (j + 1 + 1) h2 := k2 _ _ st'
    show wpAny _ A.in1 (tryCatch (holding [.int ((j + 1 : Nat) : Int) tv, .ref x] (richCompare .Gt (.ref x) (.ref xi) >>= _)) _ >>= _) _ _ _
    refine wpAny_bind (wpAny_tryCatch (wpAny_holding (wpAny_bind ?_)))
    show wpAny _ _ (compareOp .Gt (.ref x) (.ref xi)) _ _ _
    refine c_gt (s := { s with heap := h2, toks := tk2 }) OC ((rm.le (by lia : 10 + 1 ≤ 12)).in1) (HB.keeps k3) (HK.keeps k3) hx hI2 (ln _ hlt) (ln _ (by lia)) fun h3 t3 k4 _ => ?_
    refine wpAny_bind (wpAny_holding (wpAny_truthy_bool ?_))
    refine wpAny_bind (wpAny_letGo (wpAny_pure ?_))
    have hS3 := k4 _ _ hS2
    have hI3 := hI2.keeps k4
    have hx3 := hx.keeps k4
    have k5 : Kp s.heap h3 := Kp.trans k3 k4
    have st3 : rangeSt I (j + 1 + 1) h3 := k4 _ _ st2
    dsimp only
    rw [show decide (ordV (nm (j + 1)) (nm i) > 0) = cN nm i (j + 1) from gt_cN nm (j + 1) i]
    cases e : cN nm i (j + 1) with
    | true =>
      have s1 := Heap.SameBut.update h3 S (Obj.mapSeq fun _ => #[.int ((j + 1 : Nat) : Int) tv, .ref x])
      obtain ⟨cc, hcc⟩ : ∃ cc, (h3.update S (Obj.mapSeq fun _ => #[.int ((j + 1 : Nat) : Int) tv, .ref x])).get? S = some (seqObj "list" #[.int ((j + 1 : Nat) : Int) tv, .ref x] cc) := ⟨_, get?_update_seq hS3 fun _ => #[.int ((j + 1 : Nat) : Int) tv, .ref x]⟩
      rw [if_pos rfl]
      refine wpAny_bind (wpAny_updateSeq hS3 rfl (wpAny_bind (wpAny_letGo ?_)))
      rw [hname]
      refine wpAny_pure ⟨plainId_quiet PySem.F.plain_max_loop _, ih (j + 1) (j + 1) _ _ x tv cc (by lia) hlt (s1.extBut _ _ (Ne.symm SI) st3) hcc (hx3.aside hS3 (.inr ⟨_, _, rfl⟩) fun b o q e => s1.extBut b o q e) (fun b o e => s1.extBut b o (neS b o e) (k5 b o e)) (Nat.le_refl _) fun j' hj' => ?_⟩
      have W := cN_sw nm
      by_cases e' : j' = j + 1
      · subst e'
        exact ⟨W.irr _, fun h => absurd h (Nat.lt_irrefl _)⟩
      · have b1 := (best j' (by lia)).1
        have b2 : cN nm j' (j + 1) = true := by
          rcases W.or j' e with z | z
          · rw [b1] at z; cases z
          · exact z
        exact ⟨W.asym _ _ b2, fun _ => b2⟩
    | false =>
      rw [if_neg Bool.false_ne_true]
      refine wpAny_bind (wpAny_letGo ?_)
      rw [hname]
      refine wpAny_pure ⟨plainId_quiet PySem.F.plain_max_loop _, ih (j + 1) i _ _ xi ti c (by lia) hlt st3 hS3 hI3 k5 (by lia) fun j' hj' => ?_⟩
      by_cases e' : j' = j + 1
      · subst e'
        exact ⟨e, fun h => absurd h (by lia)⟩
      · exact best j' (by lia)
theorem maxK7 {r : Addr} {t1 t2 t3 : Tok} {Q : Value → Shared → Prop} (OC : OrdC prog w ordV) (rm : Rm A 13) (hr : IsRange s.heap r 0 7 1 t1 t2 t3) (key : KeyC prog w s L f C nm) (HK : IsK s.heap C) (HB : Bs w s.heap) (ln : ∀ i, i < 7 → (nm i).length ≤ 6)
    (hQ : ∀ i t h' tk', i < 7 → (∀ j, j < 7 → cN nm i j = false ∧ (j < i → cN nm j i = true)) → Kp s.heap h' → Q (.int (i : Nat) t) { s with heap := h', toks := tk' }) :
    wpAny (model prog w) A (call (.builtin "max") [.ref r] [(Str.ofString "key", .ref f)]) Q E s := by
  have hname : (toString "max" ++ toString ".loop" : String) = "max.loop" := by decide
  refine kmk_tree PySem.F.kind_max PySem.F.plain_max PySem.F.entry_max (kmk_max_key _ _) ?_
  show wpAny _ A.in1 (Builtin.Builtins.bindParams "max" ["key", "default"] 0 ⟨[], [(Str.ofString "key", .ref f)]⟩ >>= _) _ _ s
  refine wpAny_bind (wpAny_of_eq (show Builtin.Builtins.bindParams "max" ["key", "default"] 0 ⟨[], [(Str.ofString "key", .ref f)]⟩ = pure [some (.ref f), none] from rfl) ?_)
  refine wpAny_bind (wpAny_pure ?_)
  refine wpAny_bind (wpAny_pyIter_range hr (by decide +kernel) ?_)
  refine wpAny_bind (wpAny_newList ?_ (Nat.zero_le _))
  rw [hname]
  dsimp only
  have nI : s.heap.get? s.heap.objs.size = none := Heap.get?_none_of_le (Nat.le_refl _)
  have k1 := kp_push s.heap { cls := .type "range_iterator", data := .fields #[rawInt 0, rawInt (Builtin.Range.rangeSize 0 7 1), rawInt 1] }
  have st : rangeSt s.heap.objs.size 0 (s.heap.push { cls := .type "range_iterator", data := .fields #[rawInt 0, rawInt (Builtin.Range.rangeSize 0 7 1), rawInt 1] }) := by
    rw [show Builtin.Range.rangeSize 0 7 1 = 7 by decide +kernel]
    show IsRangeIter _ _ _ _ _
    simpa using Heap.get?_push_size _ rfl
  generalize s.heap.push { cls := .type "range_iterator", data := .fields #[rawInt 0, rawInt (Builtin.Range.rangeSize 0 7 1), rawInt 1] } = h1 at k1 st ⊢
  generalize s.heap.objs.size = I at nI st ⊢
  have nS1 : h1.get? h1.objs.size = none := Heap.get?_none_of_le (Nat.le_refl _)
  have k2 := kp_push h1 { cls := .type "list", data := .seq ([] : List Value).toArray }
  have hS : (h1.push { cls := .type "list", data := .seq ([] : List Value).toArray }).get? h1.objs.size = some (seqObj "list" #[] 0) := Heap.get?_push_size _ rfl
  generalize h1.push { cls := .type "list", data := .seq ([] : List Value).toArray } = h2 at k2 hS ⊢
  generalize h1.objs.size = S at nS1 hS ⊢
  have SI : S ≠ I := fun q => by have : h1.get? I = _ := st; rw [← q, nS1] at this; cases this
  have nS : s.heap.get? S = none := kp_none k1 nS1
  have st2 : rangeSt I 0 h2 := k2 _ _ st
  have k : Kp s.heap h2 := Kp.trans k1 k2
  have neI : ∀ b o, s.heap.get? b = some o → b ≠ I := fun b o e q => by rw [q, nI] at e; cases e
  have neS : ∀ b o, s.heap.get? b = some o → b ≠ S := fun b o e q => by rw [q, nS] at e; cases e
  have W := LCg.range_walks (prog := prog) (w := w) (A := A.in1) (I := I) rm.hh 0 7
  refine wpAny_pure ⟨plainId_quiet PySem.F.plain_max_loop _, ?_⟩
  refine codeAny_builtin PySem.F.entry_max_loop ?_
  rw [Around.under_plainId PySem.F.plain_max_loop _]
  show wpAny _ A.in1 (seqItems? (.ref S) >>= _) _ _ _
  refine wpAny_bind (wpAny_seqItems hS rfl ?_)
  show wpAny _ A.in1 (tryCatch (pyNext (.ref I)) _ >>= _) _ _ _
  refine wpAny_bind (wpAny_tryCatch (W.item 0 _ _ _ (by decide) st2 fun v h' tk' hP st' hk' => ?_))
  dsimp only at hk' st' ⊢
  obtain ⟨tv, rfl⟩ := hP
  have hS' := hk' S _ (by simpa using SI) hS
  have k' : Kp s.heap h' := fun b o e => hk' b o (by simpa using neI b o e) (k b o e)
  rw [show Value.int (0 + ((0 : Nat) : Int)) tv = .int ((0 : Nat) : Int) tv from rfl]
  show wpAny _ A.in1 (tryCatch (holding [.int ((0 : Nat) : Int) tv] (call (.ref f) [.int ((0 : Nat) : Int) tv])) _ >>= _) _ _ _
  refine wpAny_bind (wpAny_tryCatch (wpAny_holding (key _ 0 tv h' tk' _ _ ((rm.le (by lia : 3 + 1 ≤ 13)).in1) (by decide) (fun b o _ e => k' b o e) fun x h3 tk3 k3 hx => ?_)))
  have hS3 := k3 _ _ hS'
  have st3 : rangeSt I (0 + 1) h3 := k3 _ _ st'
  have k4 : Kp s.heap h3 := Kp.trans k' k3
  have s1 := Heap.SameBut.update h3 S (Obj.mapSeq fun _ => #[.int ((0 : Nat) : Int) tv, .ref x])
  obtain ⟨cc, hcc⟩ : ∃ cc, (h3.update S (Obj.mapSeq fun _ => #[.int ((0 : Nat) : Int) tv, .ref x])).get? S = some (seqObj "list" #[.int ((0 : Nat) : Int) tv, .ref x] cc) := ⟨_, get?_update_seq hS3 fun _ => #[.int ((0 : Nat) : Int) tv, .ref x]⟩
  show wpAny _ A.in1 (updateSeq S (fun _ => #[.int ((0 : Nat) : Int) tv, .ref x]) >>= _) _ _ _
  refine wpAny_bind (wpAny_updateSeq hS3 rfl ?_)
  rw [hname]
  refine wpAny_pure ⟨plainId_quiet PySem.F.plain_max_loop _, maxLoop OC (rm.le (by lia)) key HK HB ln nI nS SI hQ _ 0 0 _ _ x tv cc rfl (by decide) (s1.extBut _ _ (Ne.symm SI) st3) hcc (hx.aside hS3 (.inr ⟨_, _, rfl⟩) fun b o q e => s1.extBut b o q e) (fun b o e => s1.extBut b o (neS b o e) (k4 b o e)) (Nat.le_refl _) fun j' hj' => ?_⟩
  have e : j' = 0 := by lia
  subst e
  exact ⟨(cN_sw nm).irr _, fun h => absurd h (Nat.lt_irrefl _)⟩
end
end
end Mine
namespace Mine
section
open PySem PySem.W PySem.W.X PyProof.Rows PySem.Spec PySem.Calls
set_option maxRecDepth 100000
set_option maxHeartbeats 0
set_option linter.unusedVariables false
set_option linter.unusedSimpArgs false
/-- the first of the greatest -/
noncomputable def Great (nm : Nat → Str) (g : Nat) : Prop := g < 7 ∧ ∀ j, j < 7 → cN nm g j = false ∧ (j < g → cN nm j g = true)
theorem Great.one {nm : Nat → Str} {a b : Nat} (x : Great nm a) (y : Great nm b) : a = b := by
  rcases Nat.lt_trichotomy a b with h | h | h
  · have h1 := (y.2 a x.1).2 h; have h2 := (x.2 b y.1).1; rw [h1] at h2; cases h2
  · exact h
  · have h1 := (x.2 b y.1).2 h; have h2 := (y.2 a x.1).1; rw [h1] at h2; cases h2
theorem cN_row {nm : Nat → Str} {i k j : Nat} (h : rowV (nm i) = rowV (nm k)) : cN nm i j = cN nm k j := by rw [cN_eq, cN_eq, h]
theorem row_of_cN {nm : Nat → Str} {i j : Nat} (h1 : cN nm i j = false) (h2 : cN nm j i = false) : rowV (nm i) = rowV (nm j) := by
  rw [cN_eq] at h1 h2
  rw [cmpR_swap (rowV (nm i)) (rowV (nm j))] at h2
  cases e : cmpR (rowV (nm i)) (rowV (nm j)) with
  | lt => rw [e] at h1; cases h1
  | gt => rw [e] at h2; cases h2
  | eq => exact cmpR_eq_iff.mp e
theorem last_no {nm : Nat → Str} {p : Array Nat} (I : Inv (cN nm) 7 p 7) {j : Nat} (hj : j < 7) : cN nm (p.getD 6 0) j = false := by
  obtain ⟨x, hx, e⟩ := I.surj (cN_sw nm) hj
  by_cases h : x = 6
  · rw [← e, h]; exact (cN_sw nm).irr _
  · rw [← e]; exact TT.no (cN_sw nm) (I.srt x 6 (by lia) (by lia))
theorem first_no {nm : Nat → Str} {p : Array Nat} (I : Inv (cN nm) 7 p 7) {i : Nat} (hi : i < 7) (h : ∀ j, j < 7 → cN nm j i = false ∧ (j < i → cN nm i j = true)) : p.getD 0 0 = i := by
  obtain ⟨x, hx, e⟩ := I.surj (cN_sw nm) hi
  by_cases h0 : x = 0
  · rw [← e, h0]
  · have t := I.srt 0 x (by lia) hx
    rw [e] at t
    have hb := I.bd 0 (by lia)
    rcases t with t | ⟨t, l⟩
    · rw [(h _ hb).1] at t; cases t
    · rw [(h _ hb).2 l] at t; cases t
/-- the places whose rows are that of g -/
noncomputable def flt (nm : Nat → Str) (g n : Nat) : List Nat := (List.range n).filter fun k => decide (rowV (nm k) = rowV (nm g))
theorem flt_succ (nm : Nat → Str) (g i : Nat) : flt nm g (i + 1) = flt nm g i ++ (if rowV (nm i) = rowV (nm g) then [i] else []) := by
  unfold flt
  rw [List.range_succ, List.filter_append]
  congr 1
  by_cases h : rowV (nm i) = rowV (nm g)
  · rw [if_pos h, List.filter_cons_of_pos (by simpa using h)]; rfl
  · rw [if_neg h, List.filter_cons_of_neg (by simpa using h)]; rfl
section
variable {w : World} {h₀ G : Heap} {L : Nat} {m : Str → Option Value} {c : Nat → Option Value} {p16 p107 : Array Value} {A : Around} {E : Value → Shared → Prop} {s : Shared}
theorem st6 {b d : Addr} {nm : Nat → Str} (r : Rm A 8) (F : LF w h₀ G L s.heap m c p16 p107) (c1 : c 1 = some (.ref b)) (c2 : c 2 = some (.ref d)) (HR : RowsAt G b nm) (HD : DueAt G d nm) :
    wpAny (model Challenge.rw_mg0016_01.prog w) A (exec (lS 6) (lE L)) (fun f s' => ∃ g t, Great nm g ∧ Left w h₀ L s (fun y => if y = nn "greatest" then some (.int (g : Nat) t) else m y) c p16 p107 G (fun _ => True) f s') E s := by
  obtain ⟨rs, ers, rsl, rsr⟩ := HR
  obtain ⟨ds, eds, p, I, dsl, dsr⟩ := HD
  refine wpAny_Assign_Name ?_ (by with_unfolding_all rfl)
  refine wpAny_Call_NameR (eB (v := .builtin "min") F.bs (cwB (spliced_cons ?_)))
  refine lc_ (cl := [(nn "rows", L + 2), (nn "due", L + 3)]) (by with_unfolding_all rfl) (by decide +kernel) (by rfl) (by decide +kernel) (by intro _ _; rfl) ?_
  refine rangeE (n := 7) F.bs (wpAny_Constant_int ⟨_, _, rfl, rfl, fun h₁ tk₁ ra t1 t2 t3 k₁ hra hr => ?_⟩)
  refine ⟨7, fun i v => ∃ t, v = Value.int (i : Nat) t, G, fun i ys _ => ys.length ≤ i ∧ IntsAre ys ((flt nm (p.getD 6 0) i).map fun k => ((k : Nat) : Int)), fun v m₂ => m₂ (nn "j") = some v, .inr ⟨ra, 0, t1, t2, t3, rfl, hr, by decide +kernel, by decide +kernel, fun i t => ⟨t, by rw [Int.zero_add]⟩⟩,
    r.hh, by lia, Kp.trans F.gh k₁, fun _ _ _ _ h _ => h, ⟨Nat.le_refl _, .nil⟩, fun i v C s' m' E' Q' _ _ hn h => asg_name rfl (by kernel_rfl) hn h, ?_, ?_⟩
  · rintro i v ys G₁ h tk C m₂ E' hi' ⟨tz, rfl⟩ ⟨j0, j1⟩ g1 g2 k₃ hn hx
    dsimp only at k₃
    have k₄ : Kp s.heap h := Kp.trans k₁ k₃
    have cr : h.IsCell (L + 2) (some (.ref b)) := by have := cell_kp (F.cl 1 (by decide)) k₄; rw [c1] at this; exact this
    have cd : h.IsCell (L + 3) (some (.ref d)) := by have := cell_kp (F.cl 2 (by decide)) k₄; rw [c2] at this; exact this
    have lr : h.IsList b rs.toArray := lst_list (g2 _ _ (g1 _ _ ers))
    have ld : h.IsList d ds.toArray := lst_list (g2 _ _ (g1 _ _ eds))
    have kG : Kp G h := Kp.trans g1 g2
    have h6 := I.bd 6 (by decide)
    obtain ⟨d1, ed1, hr1⟩ := rsr i hi'
    obtain ⟨d2, ed2, hr2⟩ := rsr (p.getD 6 0) h6
    obtain ⟨t6, e6⟩ := dsr 6 (by decide)
    refine wpAny_tests_one (wpAny_isTrue_Compare1 (Subscript_ (eC (a := L + 2) cr (eL (v := .int (i : Nat) tz) hn hx (itemL (x := .ref d1) lr (by lia) (by simpa using ed1) ?_)))))
    refine Subscript_ (eC (a := L + 2) cr (Subscript_ (eC (a := L + 3) cd (wpAny_Constant_int (itemL (k := 6) (x := .int (p.getD 6 0 : Nat) t6) ld (by lia) (by simpa using e6) (itemL (x := .ref d2) lr (by lia) (by simpa using ed2) ?_))))))
    refine row_Eq (hr1.keeps kG) (hr2.keeps kG) (by have := r.u; show A.units + 3 < cLine; lia) (wpAny_truthy_bool ?_)
    have hsucc := flt_succ nm (p.getD 6 0) i
    cases e : resO .Eq (cmpR (rowV (nm i)) (rowV (nm (p.getD 6 0)))) with
    | true =>
      have he : rowV (nm i) = rowV (nm (p.getD 6 0)) := cmpR_eq_iff.mp (by cases q : cmpR (rowV (nm i)) (rowV (nm (p.getD 6 0))) <;> rw [q] at e <;> first | rfl | cases e)
      rw [if_pos rfl]
      rw [if_pos he] at hsucc
      refine eL (v := .int (i : Nat) tz) hn hx ⟨h, _, rfl, Kp.refl _, fun _ _ _ => ⟨by rw [List.length_append, List.length_singleton]; lia, ?_⟩⟩
      rw [hsucc, List.map_append]
      exact ksk_snoc j1
    | false =>
      have he : ¬ rowV (nm i) = rowV (nm (p.getD 6 0)) := fun q => by rw [q, cmpR_eq_iff.mpr rfl] at e; cases e
      rw [if_neg Bool.false_ne_true]
      rw [if_neg he, List.append_nil] at hsucc
      refine ⟨h, _, rfl, Kp.refl _, fun _ _ _ => ⟨by lia, ?_⟩⟩
      rw [hsucc]
      exact j1
  · intro D ys h' tk' G' k₄ hD g1 g2 gD ⟨_, j1⟩ hn
    dsimp only at k₄
    have F' := F.kp (Kp.trans k₁ k₄)
    have h6 := I.bd 6 (by decide)
    have hmem : ∀ k, k ∈ flt nm (p.getD 6 0) 7 ↔ k < 7 ∧ rowV (nm k) = rowV (nm (p.getD 6 0)) := fun k => by unfold flt; simp
    have hin : ((p.getD 6 0 : Nat) : Int) ∈ (flt nm (p.getD 6 0) 7).map fun k => ((k : Nat) : Int) := List.mem_map_of_mem ((hmem _).mpr ⟨h6, rfl⟩)
    refine spliced_nil (min_list_N (h₀ := nilH s.heap) (L := L) (m := m) (news := allBut h' [L]) (s := { s with heap := h', toks := tk' }) r.hh (fr0 F'.ns) (news0 fun q hq => ?_) (lst_list (g2 _ _ gD)) j1 (List.length_pos_of_mem hin) fun h2 M t tk2 F2 N2 hM hmin => ?_)
    · have := mem_allBut.mp hq
      exact ⟨this.2, fun z => this.1 (by rw [z]; exact .head _)⟩
    have kB : KpB L h' h2 := fun b o q e => (N2 (b, o) (mem_allBut.mpr ⟨by simp [q], e⟩)).1
    obtain ⟨g, hg, rfl⟩ := List.mem_map.mp hM
    obtain ⟨hg7, hgr⟩ := (hmem g).mp hg
    refine LF.stL (s := { s with heap := h2, toks := tk2 }) (F'.kpB kB F2.ns) fun h₅ F₅ _ => ?_
    refine ⟨g, t, ⟨hg7, fun j hj => ⟨?_, fun hlt => ?_⟩⟩, rfl, h₅, _, G, rfl, F₅, Kp.refl _, trivial⟩
    · rw [cN_row hgr]; exact last_no I hj
    · cases e : cN nm j g with
      | true => rfl
      | false =>
        have e2 : cN nm g j = false := by rw [cN_row hgr]; exact last_no I hj
        have he := row_of_cN e e2
        have := hmin (j : Nat) (List.mem_map_of_mem ((hmem j).mpr ⟨hj, he.trans hgr⟩))
        lia
end
end
end Mine
namespace Mine
section
open PySem PySem.W PySem.W.X PyProof.Rows PySem.Spec PySem.Calls
set_option maxRecDepth 100000
set_option maxHeartbeats 0
set_option linter.unusedVariables false
set_option linter.unusedSimpArgs false
section
variable {w : World} {h₀ G : Heap} {L : Nat} {m : Str → Option Value} {c : Nat → Option Value} {p16 p107 : Array Value} {A : Around} {E : Value → Shared → Prop} {s : Shared}
theorem ran_ne107 {h : Heap} {ra : Addr} {t1 t2 t3 : Tok} (F : LF w h₀ G L h m c p16 p107) (hr : IsRange h ra 0 7 1 t1 t2 t3) : ra ≠ 107 := fun q => by
  rw [q] at hr
  have := F.t107
  rw [show h.get? 107 = _ from hr] at this
  simp [tableObj] at this
theorem st7 {C : Nat} {a d g : Addr} {cv : Addr} {nm : Nat → Str} {tg : Tok} (r : Rm A 16) (F : LF w h₀ G L s.heap m c p16 #[rawInt 110, rawInt 0, .ref cv]) (mg : m (nn "greatest") = some (.int (g : Nat) tg)) (hg : Great nm g) (c3 : c 3 = some (.ref (C + 111))) (c4 : c 4 = some (.ref a)) (c2 : c 2 = some (.ref d)) (HN : NamesAt G a nm) (HK : IsK G C) (HD : DueAt G d nm) :
    wpAny (model Challenge.rw_mg0016_01.prog w) A (exec (lS 7) (lE L)) (fun f s' => ∃ p107, Left w h₀ L s m c p16 p107 G (fun _ => True) f s') E s := by
  have ln : ∀ i, i < 7 → (nm i).length ≤ 6 := fun i hi => by obtain ⟨_, _, _, q⟩ := HN; exact (q i hi).1
  obtain ⟨ds, eds, p, I, dsl, dsr⟩ := HD
  refine wpAny_If (isTrue_or (wpAny_isTrue_Compare1 ?_))
  refine wpAny_Call_Name_kw (eB (v := .builtin "min") F.bs (callWith_kw (spliced_cons (rangeE (n := 7) F.bs (wpAny_Constant_int ⟨_, _, rfl, rfl, fun h₁ tk₁ ra t1 t2 t3 k₁ hra hr => spliced_nil (kws_cons ?_)⟩)))))
  have F₁ := F.kp k₁
  refine LF.lam (params := lamArgs ⟨114, 7, 114, 8⟩) (body := lamBody ⟨114, 10, 114, 13⟩ ⟨114, 14, 114, 19⟩ ⟨114, 20, 114, 21⟩ ⟨114, 14, 114, 22⟩ ⟨114, 10, 114, 23⟩) (scope := lamScope) (pos := ⟨114, 0, 114, 23⟩) (clos := lamCl L) (s := { s with heap := h₁, toks := tk₁ }) F₁ trivial (by rfl) (by with_unfolding_all rfl) (by rfl) fun f c' ctv pm h₂ tk₂ F₂ k₂ ef nf hc => ?_
  dsimp only at k₂ nf
  refine kws_nil ?_
  show wpAny _ _ (call (.builtin "min") [.ref ra] [(Str.ofString "key", .ref f)]) _ _ _
  refine minK7 (s := { s with heap := h₂, toks := tk₂ }) order_ (r.le (by lia)) (k₂ _ _ (ran_ne107 F₁ hr) hr) (F₂.key (s := { s with heap := h₂, toks := tk₂ }) c3 c4 HN HK ef hc) (HK.keeps F₂.gh) F₂.bs ln fun i t h₃ tk₃ hi hmin k₃ => ?_
  dsimp only at k₃
  have F₃ := F₂.kp k₃
  have cd : h₃.IsCell (L + 3) (some (.ref d)) := by have := F₃.cl 2 (by decide); rw [c2] at this; exact this
  obtain ⟨t0, e0⟩ := dsr 0 (by decide)
  refine Subscript_ (eC (a := L + 3) cd (wpAny_Constant_int (itemL (k := 0) (x := .int (p.getD 0 0 : Nat) t0) (lst_list (F₃.gh _ _ eds)) (by lia) (by simpa using e0) (P.ne_int (wpAny_truthy_bool ?_)))))
  rw [first_no I hi hmin, show (((i : Nat) : Int) != ((i : Nat) : Int)) = false by simp, if_neg Bool.false_ne_true]
  have FF := F₃
  refine isTrue_or (wpAny_isTrue_Compare1 ?_)
  refine wpAny_Call_Name_kw (eB (v := .builtin "max") F₃.bs (callWith_kw (spliced_cons (rangeE (n := 7) F₃.bs (wpAny_Constant_int ⟨_, _, rfl, rfl, fun h₄ tk₄ rb t4 t5 t6 k₄ hrb hr' => spliced_nil (kws_cons ?_)⟩)))))
  have F₄ := F₃.kp k₄
  refine LF.lam (params := lamArgs ⟨115, 7, 115, 8⟩) (body := lamBody ⟨115, 10, 115, 13⟩ ⟨115, 14, 115, 19⟩ ⟨115, 20, 115, 21⟩ ⟨115, 14, 115, 22⟩ ⟨115, 10, 115, 23⟩) (scope := lamScope) (pos := ⟨115, 0, 115, 23⟩) (clos := lamCl L) (s := { s with heap := h₄, toks := tk₄ }) F₄ trivial (by rfl) (by with_unfolding_all rfl) (by rfl) fun f' c'' ctv' pm' h₅ tk₅ F₅ k₅ ef' nf' hc' => ?_
  dsimp only at k₅ nf'
  refine kws_nil ?_
  show wpAny _ _ (call (.builtin "max") [.ref rb] [(Str.ofString "key", .ref f')]) _ _ _
  refine maxK7 (s := { s with heap := h₅, toks := tk₅ }) order_ (r.le (by lia)) (k₅ _ _ (ran_ne107 F₄ hr') hr') (F₅.key (s := { s with heap := h₅, toks := tk₅ }) c3 c4 HN HK ef' hc') (HK.keeps F₅.gh) F₅.bs ln fun i' t' h₆ tk₆ hi' hmax k₆ => ?_
  dsimp only at k₆
  have F₆ := F₅.kp k₆
  refine eL (v := .int (g : Nat) tg) F₆.ns mg (P.ne_int (wpAny_truthy_bool ?_))
  rw [Great.one ⟨hi', hmax⟩ hg, show (((g : Nat) : Int) != ((g : Nat) : Int)) = false by simp, if_neg Bool.false_ne_true]
  refine isTrue_or_nil ?_
  rw [if_neg Bool.false_ne_true]
  exact wpAny_execs_nil ⟨_, rfl, h₆, _, G, rfl, F₆, Kp.refl _, trivial⟩
end
end
end Mine
namespace Mine
section
open PySem PySem.W PySem.W.X PyProof.Rows PySem.Spec PySem.Calls
set_option maxRecDepth 100000
set_option maxHeartbeats 0
set_option linter.unusedVariables false
set_option linter.unusedSimpArgs false
section
variable {prog : Program} {w : World} {A : Around} {E : Value → Shared → Prop} {s : Shared} {Q : Value → Shared → Prop}
theorem ne_bools {a b : Addr} {b1 b2 b3 b4 b5 b6 : Bool} (ha : s.heap.IsList a (List.toArray [.bool b1, .bool b2, .bool b3, .bool b4, .bool b5, .bool b6])) (hb : s.heap.IsList b (List.toArray [.bool b1, .bool b2, .bool b3, .bool b4, .bool b5, .bool b6])) (hu : A.units + 64 < cLine) (h : Q (.bool false) s) :
    wpAny (model prog w) A (compareOp .NotEq (.ref a) (.ref b)) Q E s := by
  have c : CarriedAll [Value.bool b1, .bool b2, .bool b3, .bool b4, .bool b5, .bool b6] ([b1, b2, b3, b4, b5, b6].map PyData.bool) := .cons (.bool _) (.cons (.bool _) (.cons (.bool _) (.cons (.bool _) (.cons (.bool _) (.cons (.bool _) .nil)))))
  have sh : SeqAt.shaped (.list ([b1, b2, b3, b4, b5, b6].map PyData.bool)) = true := by simp [SeqAt.shaped, PyData.canLay0, PyData.canLayAll0, PyData.depth, PyData.depthAll]
  refine ne_dataH_same (reads_newData ha c) (reads_newData hb c) sh sh hu (SeqAt.noMix_of_shape (.list .bool) rfl _ _ (list_map_has fun _ => rfl) (list_map_has fun _ => rfl)) ?_
  have e : PySem.Spec.same (.list ([b1, b2, b3, b4, b5, b6].map PyData.bool)) (.list ([b1, b2, b3, b4, b5, b6].map PyData.bool)) = true := by simp [PySem.Spec.same, PySem.Spec.sameAll]
  rw [e]
  exact h
end
section
variable {w : World} {h₀ G : Heap} {L : Nat} {m : Str → Option Value} {c : Nat → Option Value} {p16 p107 : Array Value} {A : Around} {E : Value → Shared → Prop} {s : Shared}
theorem LF.nm {C : Nat} {a : Addr} {nm : Nat → Str} {h : Heap} (F : LF w h₀ G L h m c p16 p107) (c3 : c 3 = some (.ref (C + 111))) (c4 : c 4 = some (.ref a)) (HN : NamesAt G a nm) (HK : IsK G C) : NmAt L C a nm h := by
  refine ⟨?_, ?_, ?_, HK.keeps F.gh, kf_nolimit F.bs.X⟩
  · have := F.cl 3 (by decide); rw [c3] at this; exact this
  · have := F.cl 4 (by decide); rw [c4] at this; exact this
  · obtain ⟨ys, e, r⟩ := HN
    exact ⟨ys, F.gh _ _ e, r⟩
/-- key(names[x]) -/
theorem keyN {C : Nat} {a : Addr} {nm : Nat → Str} {x : Str} {p1 p2 p3 p4 p5 : Pos} {i : Nat} {t : Tok} {Q : Value → Shared → Prop} (r : Rm A 1) (F : LF w h₀ G L s.heap m c p16 p107) (c3 : c 3 = some (.ref (C + 111))) (c4 : c 4 = some (.ref a)) (HN : NamesAt G a nm) (HK : IsK G C)
    (hx : m x = some (.int (i : Nat) t)) (hi : i < 7) (h : ∀ y h' tk', Kp s.heap h' → IsI h' C y (nm i) → Q (.ref y) { s with heap := h', toks := tk' })
    (hl : (lE L).kindOf x = some .local := by kernel_rfl) (hd : (x == ("__debug__" : Str)) = false := by kernel_rfl) :
    wpAny (model Challenge.rw_mg0016_01.prog w) A (eval (.Call (.Name (nn "key") p1) [.Subscript (.Name (nn "names") p2) (.Name x p3) p4] [] p5) (lE L)) Q E s := by
  have X := F.nm c3 c4 HN HK
  obtain ⟨its, u, il, ie⟩ := name_at X hi
  refine wpAny_Call_NameR (eC (a := L + 4) X.ck (cwC (spliced_cons (Subscript_ (eC (a := L + 5) X.cn (eL (v := .int (i : Nat) t) F.ns hx (itemL il (by lia) ie (spliced_nil ⟨X.K, ?_⟩)) (hl := hl) (hd := hd)))))))
  refine mkK (nm := nm i) ?_ X.lim X.K fun y h' t' k' _ _ I => h y h' t' k' I
  have := r.d
  lia
theorem rowN {b : Addr} {nm : Nat → Str} {x : Str} {p2 p3 p4 : Pos} {i : Nat} {t : Tok} {Q : Value → Shared → Prop} (F : LF w h₀ G L s.heap m c p16 p107) (c1 : c 1 = some (.ref b)) (HR : RowsAt G b nm)
    (hx : m x = some (.int (i : Nat) t)) (hi : i < 7) (h : ∀ d, RowAt G d (rowV (nm i)) → Q (.ref d) s)
    (hl : (lE L).kindOf x = some .local := by kernel_rfl) (hd : (x == ("__debug__" : Str)) = false := by kernel_rfl) :
    wpAny (model Challenge.rw_mg0016_01.prog w) A (eval (.Subscript (.Name (nn "rows") p2) (.Name x p3) p4) (lE L)) Q E s := by
  obtain ⟨rs, ers, rsl, rsr⟩ := HR
  have cr : s.heap.IsCell (L + 2) (some (.ref b)) := by have := F.cl 1 (by decide); rw [c1] at this; exact this
  obtain ⟨d, ed, hr⟩ := rsr i hi
  exact Subscript_ (eC (a := L + 2) cr (eL (v := .int (i : Nat) t) F.ns hx (itemL (x := .ref d) (lst_list (F.gh _ _ ers)) (by lia) (by simpa using ed) (h d hr)) (hl := hl) (hd := hd)))
theorem IsI.toL {h h' : Heap} {C : Nat} {x L : Addr} {nm y : Str} {v : Value} {m : Str → Option Value} (i : IsI h C x nm) (n : h.Ns L m) (hm : m y = some v) (k : ∀ b o, b ≠ L → h.get? b = some o → h'.get? b = some o) : IsI h' C x nm := by
  obtain ⟨dx, u, e1, e2⟩ := i
  obtain ⟨oL, es, nn', hL, hd, _, hf⟩ := n
  refine ⟨dx, u, k _ _ (fun q => ?_) e1, k _ _ (fun q => ?_) e2⟩
  · rw [q, hL] at e1; cases e1; cases hd
  · rw [q, hL] at e2
    cases e2
    cases hd
    have := hf y
    rw [hm] at this
    cases this
/-- the body of the inner loop -/
noncomputable def body8 : List Stmt := match lS 8 with
  | .For _ _ [.For _ _ b _ _] _ _ => b
  | _ => []
theorem turn8 {C : Nat} {a b : Addr} {nm : Nat → Str} {i j : Nat} {ti tj : Tok} (r : Rm A 12) (F : LF w h₀ G L s.heap m c p16 p107) (c1 : c 1 = some (.ref b)) (c3 : c 3 = some (.ref (C + 111))) (c4 : c 4 = some (.ref a)) (HN : NamesAt G a nm) (HR : RowsAt G b nm) (HK : IsK G C)
    (mi : m (nn "i") = some (.int (i : Nat) ti)) (mj : m (nn "j") = some (.int (j : Nat) tj)) (hi : i < 7) (hj : j < 7) :
    wpAny (model Challenge.rw_mg0016_01.prog w) A (execs body8 (lE L)) (fun f s' => f = .next ∧ ∃ h' tk' m', s' = { s with heap := h', toks := tk' } ∧ LF w h₀ G L h' m' c p16 p107 ∧ m' (nn "i") = m (nn "i") ∧ KpB L s.heap h') E s := by
  have ln : ∀ i, i < 7 → (nm i).length ≤ 6 := fun i hi => by obtain ⟨_, _, _, q⟩ := HN; exact (q i hi).1
  refine wpAny_execs_cons (wpAny_Assign_Name (keyN (r.le (by lia)) F c3 c4 HN HK mi hi fun ya h₁ t₁ k₁ Ia => ?_))
  have F₁ := F.kp k₁
  refine LF.stL (s := { s with heap := h₁, toks := t₁ }) F₁ fun h₂ F₂ sb₂ => ?_
  have Ia₂ := Ia.toL F₁.ns mi fun b o q e => sb₂.extBut b o q e
  refine wpAny_execs_cons (wpAny_Assign_Name (keyN (r.le (by lia)) F₂ c3 c4 HN HK (x := nn "j") (t := tj) (u_ne mj) hj fun yb h₃ t₃ k₃ Ib => ?_))
  have F₃ := F₂.kp k₃
  have Ia₃ := Ia₂.keeps k₃
  refine LF.stL (s := { s with heap := h₃, toks := t₃ }) F₃ fun h₄ F₄ sb₄ => ?_
  have mi₃ : (fun y => if y = nn "a" then some (Value.ref ya) else m y) (nn "i") = some (.int (i : Nat) ti) := u_ne mi
  have Ia₄ := Ia₃.toL F₃.ns mi₃ fun b o q e => sb₄.extBut b o q e
  have Ib₄ := Ib.toL F₃.ns mi₃ fun b o q e => sb₄.extBut b o q e
  have ma₄ : (fun y => if y = nn "b" then some (Value.ref yb) else (fun y => if y = nn "a" then some (Value.ref ya) else m y) y) (nn "a") = some (.ref ya) := u_ne u_eq
  have mb₄ : (fun y => if y = nn "b" then some (Value.ref yb) else (fun y => if y = nn "a" then some (Value.ref ya) else m y) y) (nn "b") = some (.ref yb) := u_eq
  have mi₄ : (fun y => if y = nn "b" then some (Value.ref yb) else (fun y => if y = nn "a" then some (Value.ref ya) else m y) y) (nn "i") = some (.int (i : Nat) ti) := u_ne (u_ne mi)
  have mj₄ : (fun y => if y = nn "b" then some (Value.ref yb) else (fun y => if y = nn "a" then some (Value.ref ya) else m y) y) (nn "j") = some (.int (j : Nat) tj) := u_ne (u_ne mj)
  have B₄ : KpB L s.heap h₄ := fun b o q e => sb₄.extBut b o q (k₃ _ _ (sb₂.extBut b o q (k₁ _ _ e)))
  have im : (fun y => if y = nn "b" then some (Value.ref yb) else (fun y => if y = nn "a" then some (Value.ref ya) else m y) y) (nn "i") = m (nn "i") := mi₄.trans mi.symm
  clear mi₃ Ia₃ Ia₂ Ia Ib sb₂ sb₄ F₃ F₂ F₁
  generalize (fun y => if y = nn "b" then some (Value.ref yb) else (fun y => if y = nn "a" then some (Value.ref ya) else m y) y) = m₄ at *
  refine wpAny_execs_cons (wpAny_Assign_Name (listE ?_))
  refine spliced_cons (wpAny_Compare1 (eL (v := .ref ya) F₄.ns ma₄ (eL (v := .ref yb) F₄.ns mb₄ (c_lt (s := { s with heap := h₄, toks := t₃ + 1 }) order_ (r.le (by lia)) F₄.bs (HK.keeps F₄.gh) Ia₄ Ib₄ (ln i hi) (ln j hj) fun h₅ t₅ k₅ _ => ?_))))
  have F₅ := F₄.kp k₅
  have Ia₅ := Ia₄.keeps k₅
  have Ib₅ := Ib₄.keeps k₅
  have B₅ : KpB L s.heap h₅ := fun b o q e => k₅ _ _ (B₄ b o q e)
  clear F₄ Ia₄ Ib₄ B₄
  dsimp only
  refine spliced_cons (wpAny_Compare1 (eL (v := .ref ya) F₅.ns ma₄ (eL (v := .ref yb) F₅.ns mb₄ (c_le (s := { s with heap := h₅, toks := t₅ }) order_ (r.le (by lia)) F₅.bs (HK.keeps F₅.gh) Ia₅ Ib₅ (ln i hi) (ln j hj) fun h₆ t₆ k₆ _ => ?_))))
  have F₆ := F₅.kp k₆
  have Ia₆ := Ia₅.keeps k₆
  have Ib₆ := Ib₅.keeps k₆
  have B₆ : KpB L s.heap h₆ := fun b o q e => k₆ _ _ (B₅ b o q e)
  clear F₅ Ia₅ Ib₅ B₅
  dsimp only
  refine spliced_cons (wpAny_Compare1 (eL (v := .ref ya) F₆.ns ma₄ (eL (v := .ref yb) F₆.ns mb₄ (c_eq (s := { s with heap := h₆, toks := t₆ }) order_ (r.le (by lia)) F₆.bs (HK.keeps F₆.gh) Ia₆ Ib₆ (ln i hi) (ln j hj) fun h₇ t₇ k₇ _ => ?_))))
  have F₇ := F₆.kp k₇
  have Ia₇ := Ia₆.keeps k₇
  have Ib₇ := Ib₆.keeps k₇
  have B₇ : KpB L s.heap h₇ := fun b o q e => k₇ _ _ (B₆ b o q e)
  clear F₆ Ia₆ Ib₆ B₆
  dsimp only
  refine spliced_cons (wpAny_Compare1 (eL (v := .ref ya) F₇.ns ma₄ (eL (v := .ref yb) F₇.ns mb₄ (c_ne (s := { s with heap := h₇, toks := t₇ }) order_ (r.le (by lia)) F₇.bs (HK.keeps F₇.gh) Ia₇ Ib₇ (ln i hi) (ln j hj) fun h₈ t₈ k₈ _ => ?_))))
  have F₈ := F₇.kp k₈
  have Ia₈ := Ia₇.keeps k₈
  have Ib₈ := Ib₇.keeps k₈
  have B₈ : KpB L s.heap h₈ := fun b o q e => k₈ _ _ (B₇ b o q e)
  clear F₇ Ia₇ Ib₇ B₇
  dsimp only
  refine spliced_cons (wpAny_Compare1 (eL (v := .ref ya) F₈.ns ma₄ (eL (v := .ref yb) F₈.ns mb₄ (c_ge (s := { s with heap := h₈, toks := t₈ }) order_ (r.le (by lia)) F₈.bs (HK.keeps F₈.gh) Ia₈ Ib₈ (ln i hi) (ln j hj) fun h₉ t₉ k₉ _ => ?_))))
  have F₉ := F₈.kp k₉
  have Ia₉ := Ia₈.keeps k₉
  have Ib₉ := Ib₈.keeps k₉
  have B₉ : KpB L s.heap h₉ := fun b o q e => k₉ _ _ (B₈ b o q e)
  clear F₈ Ia₈ Ib₈ B₈
  dsimp only
  refine spliced_cons (wpAny_Compare1 (eL (v := .ref ya) F₉.ns ma₄ (eL (v := .ref yb) F₉.ns mb₄ (c_gt (s := { s with heap := h₉, toks := t₉ }) order_ (r.le (by lia)) F₉.bs (HK.keeps F₉.gh) Ia₉ Ib₉ (ln i hi) (ln j hj) fun h₁₀ t₁₀ k₁₀ _ => ?_))))
  have F₁₀ := F₉.kp k₁₀
  have Ia₁₀ := Ia₉.keeps k₁₀
  have Ib₁₀ := Ib₉.keeps k₁₀
  have B₁₀ : KpB L s.heap h₁₀ := fun b o q e => k₁₀ _ _ (B₉ b o q e)
  clear F₉ Ia₉ Ib₉ B₉
  dsimp only
  refine spliced_nil ⟨Nat.le_of_ble_eq_true rfl, fun hT T kT nT eT => ?_⟩
  dsimp only at kT nT eT ⊢
  have F₁₁ := F₁₀.kp kT
  have B₁₁ : KpB L s.heap hT := fun b o q e => kT _ _ (B₁₀ b o q e)
  refine LF.stL (s := { s with heap := hT, toks := t₁₀ }) F₁₁ fun h₁₂ F₁₂ sb₁₂ => ?_
  have TL : T ≠ L := by
    obtain ⟨oL, es, nn', hL, hd, _⟩ := F₁₁.ns
    intro q
    rw [q, hL] at eT
    cases eT
    cases hd
  have eT₁₂ := sb₁₂.extBut _ _ TL eT
  have B₁₂ : KpB L s.heap h₁₂ := fun b o q e => sb₁₂.extBut b o q (B₁₁ b o q e)
  refine wpAny_execs_cons (wpAny_Assign_Name (rowN (s := { s with heap := h₁₂, toks := _ }) F₁₂ c1 HR (x := nn "i") (t := ti) (u_ne mi₄) hi fun dc hrc => ?_))
  refine LF.stL (s := { s with heap := h₁₂, toks := _ }) F₁₂ fun h₁₃ F₁₃ sb₁₃ => ?_
  have eT₁₃ := sb₁₃.extBut _ _ TL eT₁₂
  have B₁₃ : KpB L s.heap h₁₃ := fun b o q e => sb₁₃.extBut b o q (B₁₂ b o q e)
  refine wpAny_execs_cons (wpAny_Assign_Name (rowN (s := { s with heap := h₁₃, toks := _ }) F₁₃ c1 HR (x := nn "j") (t := tj) (u_ne (u_ne mj₄)) hj fun dd hrd => ?_))
  refine LF.stL (s := { s with heap := h₁₃, toks := _ }) F₁₃ fun h₁₄ F₁₄ sb₁₄ => ?_
  have eT₁₄ := sb₁₄.extBut _ _ TL eT₁₃
  have B₁₄ : KpB L s.heap h₁₄ := fun b o q e => sb₁₄.extBut b o q (B₁₃ b o q e)
  have im' : (fun y => if y = nn "d" then some (Value.ref dd) else (fun y => if y = nn "c" then some (Value.ref dc) else (fun y => if y = nn "told" then some (Value.ref T) else m₄ y) y) y) (nn "i") = m₄ (nn "i") := u_ne (u_ne (u_ne rfl))
  have mc : (fun y => if y = nn "d" then some (Value.ref dd) else (fun y => if y = nn "c" then some (Value.ref dc) else (fun y => if y = nn "told" then some (Value.ref T) else m₄ y) y) y) (nn "c") = some (.ref dc) := u_ne u_eq
  have md : (fun y => if y = nn "d" then some (Value.ref dd) else (fun y => if y = nn "c" then some (Value.ref dc) else (fun y => if y = nn "told" then some (Value.ref T) else m₄ y) y) y) (nn "d") = some (.ref dd) := u_eq
  have mt : (fun y => if y = nn "d" then some (Value.ref dd) else (fun y => if y = nn "c" then some (Value.ref dc) else (fun y => if y = nn "told" then some (Value.ref T) else m₄ y) y) y) (nn "told") = some (.ref T) := u_ne (u_ne u_eq)
  clear eT₁₃ eT₁₂ eT F₁₃ F₁₂ F₁₁ B₁₁ B₁₂ B₁₃
  generalize (fun y => if y = nn "d" then some (Value.ref dd) else (fun y => if y = nn "c" then some (Value.ref dc) else (fun y => if y = nn "told" then some (Value.ref T) else m₄ y) y) y) = m₅ at *
  have hc' := hrc.keeps F₁₄.gh
  have hd' := hrd.keeps F₁₄.gh
  have hu : A.units + 3 < cLine := by have := r.u; lia
  refine wpAny_execs_cons (rest := []) (wpAny_If (wpAny_isTrue_Compare1 (eL (v := .ref T) F₁₄.ns mt (listE ?_))))
  refine spliced_cons (wpAny_Compare1 (eL (v := .ref dc) F₁₄.ns mc (eL (v := .ref dd) F₁₄.ns md (row_Lt hc' hd' hu ?_))))
  refine spliced_cons (wpAny_Compare1 (eL (v := .ref dc) F₁₄.ns mc (eL (v := .ref dd) F₁₄.ns md (row_LtE hc' hd' hu ?_))))
  refine spliced_cons (wpAny_Compare1 (eL (v := .ref dc) F₁₄.ns mc (eL (v := .ref dd) F₁₄.ns md (row_Eq hc' hd' hu ?_))))
  refine spliced_cons (wpAny_Compare1 (eL (v := .ref dc) F₁₄.ns mc (eL (v := .ref dd) F₁₄.ns md (row_NotEq hc' hd' hu ?_))))
  refine spliced_cons (wpAny_Compare1 (eL (v := .ref dc) F₁₄.ns mc (eL (v := .ref dd) F₁₄.ns md (row_GtE hc' hd' hu ?_))))
  refine spliced_cons (wpAny_Compare1 (eL (v := .ref dc) F₁₄.ns mc (eL (v := .ref dd) F₁₄.ns md (row_Gt hc' hd' hu ?_))))
  refine spliced_nil ⟨Nat.le_of_ble_eq_true rfl, fun hZ Z kZ nZ eZ => ?_⟩
  dsimp only at kZ nZ eZ ⊢
  have eT' := kZ _ _ eT₁₄
  have q := ci_dec (ordV (nm i) (nm j)) 0
  rw [ord_rows] at q
  obtain ⟨q1, q2, q3, q4, q5, q6⟩ := q
  rw [show (!(ordV (nm i) (nm j) == 0)) = (ordV (nm i) (nm j) != 0) from rfl, ← q1, ← q2, ← q3, ← q4, ← q5, ← q6] at eT'
  refine ne_bools (s := { s with heap := hZ, toks := _ }) ⟨_, eT', rfl, _, rfl⟩ ⟨_, eZ, rfl, _, rfl⟩ (by have := r.u; lia) (wpAny_truthy_bool ?_)
  rw [if_neg Bool.false_ne_true]
  exact wpAny_execs_nil (wpAny_execs_nil ⟨rfl, hZ, _, m₅, rfl, F₁₄.kp kZ, im'.trans im, fun b o q e => kZ _ _ (B₁₄ b o q e)⟩)
end
end
end Mine
namespace Mine
section
open PySem PySem.W PySem.W.X PyProof.Rows PySem.Spec PySem.Calls
set_option maxRecDepth 100000
set_option maxHeartbeats 0
set_option linter.unusedVariables false
set_option linter.unusedSimpArgs false
section
variable {w : World} {h₀ G : Heap} {L : Nat} {m : Str → Option Value} {c : Nat → Option Value} {p16 p107 : Array Value} {A : Around} {E : Value → Shared → Prop} {s : Shared}
/-- an address that law's frame does not know -/
structure Far (G : Heap) (L I : Nat) : Prop where
  g : G.get? I = none
  l : I ≠ L
  cl : ∀ i, i < 5 → I ≠ L + 1 + i
  t16 : I ≠ 16
  t107 : I ≠ 107
theorem LF.far {h : Heap} {I : Nat} (F : LF w h₀ G L h m c p16 p107) (hI : h.get? I = none) : Far G L I := by
  obtain ⟨oL, eL, -⟩ := LCg.ns_obj F.ns
  refine ⟨kp_none F.gh hI, fun q => ?_, fun i hi q => ?_, fun q => ?_, fun q => ?_⟩
  · rw [q, eL] at hI; cases hI
  · obtain ⟨o, e, _⟩ := F.cl i hi
    rw [q, e] at hI; cases hI
  · rw [q, F.t16] at hI; cases hI
  · rw [q, F.t107] at hI; cases hI
theorem LF.but {h h' : Heap} {I : Nat} (F : LF w h₀ G L h m c p16 p107) (X : Far G L I) (k : ∀ b o, b ≠ I → h.get? b = some o → h'.get? b = some o) : LF w h₀ G L h' m c p16 p107 := by
  refine ⟨F.ns.at' fun o e => k _ o (Ne.symm X.l) e, fun b o e => k b o (fun q => by rw [q, X.g] at e; cases e) (F.gh b o e), F.gL, fun i hi => ?_, F.gc, k _ _ (Ne.symm X.t16) F.t16, k _ _ (Ne.symm X.t107) F.t107, F.g16, F.g107, F.og, F.X, F.m4, F.bl⟩
  obtain ⟨o, e, d⟩ := F.cl i hi
  exact ⟨o, k _ _ (Ne.symm (X.cl i hi)) e, d⟩
theorem inner8 {C : Nat} {a b : Addr} {nm : Nat → Str} {i : Nat} {ti : Tok} {st : Stmt} (hs : st = (match lS 8 with | .For _ _ (x :: _) _ _ => x | x => x)) (r : Rm A 12) (F : LF w h₀ G L s.heap m c p16 p107) (c1 : c 1 = some (.ref b)) (c3 : c 3 = some (.ref (C + 111))) (c4 : c 4 = some (.ref a)) (HN : NamesAt G a nm) (HR : RowsAt G b nm) (HK : IsK G C)
    (mi : m (nn "i") = some (.int (i : Nat) ti)) (hi : i < 7) {I : Nat} {oI : Obj} (hI : s.heap.get? I = some oI) (hIL : I ≠ L) :
    wpAny (model Challenge.rw_mg0016_01.prog w) A (exec st (lE L)) (fun f s' => f = .next ∧ ∃ h' tk' m', s' = { s with heap := h', toks := tk' } ∧ LF w h₀ G L h' m' c p16 p107 ∧ h'.get? I = some oI) (fun _ _ => False) s := by
  subst hs
  refine wpAny_For (rangeE (n := ((i + 1 : Nat) : Int)) F.bs (wpAny_BinOp (eL (v := .int (i : Nat) ti) F.ns mi (wpAny_Constant_int (P.add_int ⟨_, _, by rw [show ((i : Nat) : Int) + 1 = ((i + 1 : Nat) : Int) by lia], rfl, fun h₁ tk₁ ra t1 t2 t3 k₁ hra hr => ?_⟩)))))
  have hsz : Builtin.Range.rangeSize 0 ((i + 1 : Nat) : Int) 1 = ((i + 1 : Nat) : Int) := by rw [rangeSize_one, if_pos (by lia)]; lia
  refine wpAny_pyIter_range hr (small_one (by lia) (by lia) (by lia) (by lia)) ?_
  dsimp only
  have F₁ := F.kp k₁
  have hJ : h₁.get? h₁.objs.size = none := Heap.get?_none_of_le (Nat.le_refl _)
  have X := F₁.far hJ
  have k₂ := kp_push h₁ { cls := .type "range_iterator", data := .fields #[rawInt 0, rawInt (Builtin.Range.rangeSize 0 ((i + 1 : Nat) : Int) 1), rawInt 1] }
  have st0 : IsRangeIter (h₁.push { cls := .type "range_iterator", data := .fields #[rawInt 0, rawInt (Builtin.Range.rangeSize 0 ((i + 1 : Nat) : Int) 1), rawInt 1] }) h₁.objs.size (0 + ((0 : Nat) : Int) * 1) (((i + 1 : Nat) : Int) - ((0 : Nat) : Int)) 1 := by
    rw [hsz]
    show IsRangeIter _ _ _ _ _
    simpa using Heap.get?_push_size _ rfl
  generalize h₁.push { cls := .type "range_iterator", data := .fields #[rawInt 0, rawInt (Builtin.Range.rangeSize 0 ((i + 1 : Nat) : Int) 1), rawInt 1] } = h₂ at k₂ st0 ⊢
  have hIJ : I ≠ h₁.objs.size := fun q => by have := k₁ _ _ hI; rw [q, hJ] at this; cases this
  generalize h₁.objs.size = J at hJ X st0 hIJ ⊢
  have W := LCg.range_walks (prog := Challenge.rw_mg0016_01.prog) (w := w) (A := A) (I := J) r.hh 0 (i + 1)
  refine floop (s := { s with heap := h₂, toks := tk₁ }) W (fun _ h => ∃ m', LF w h₀ G L h m' c p16 p107 ∧ m' (nn "i") = some (.int (i : Nat) ti) ∧ h.get? I = some oI) (fun i h st => ⟨_, st⟩) st0
    ⟨m, F₁.kp k₂, mi, k₂ _ _ (k₁ _ _ hI)⟩ ?_ ?_ ?_
  · rintro _ h h' ⟨m', F', mi', eI⟩ k
    exact ⟨m', F'.but X k, mi', k _ _ hIJ eI⟩
  · rintro j v h tk oJ hj ⟨tj, rfl⟩ ⟨m', F', mi', eI⟩ eJ
    have ev : Value.int (0 + ((j : Nat) : Int)) tj = .int ((j : Nat) : Int) tj := by rw [Int.zero_add]
    rw [ev]
    refine LF.stL (s := { s with heap := h, toks := tk }) F' fun h₃ F₃ sb => ?_
    refine wpAny_mono (turn8 (s := { s with heap := h₃, toks := _ }) r F₃ c1 c3 c4 HN HR HK (u_ne mi') u_eq hi (by lia)) (fun f s₂ q => ?_) fun _ _ e => e
    obtain ⟨rfl, h', tk', m'', rfl, F'', mi'', kB⟩ := q
    exact ⟨h', tk', rfl, kB _ _ X.l (sb.extBut _ _ X.l eJ), m'', F'', mi''.trans (u_ne mi'), kB _ _ hIL (sb.extBut _ _ hIL eI)⟩
  · rintro h tk ⟨m', F', mi', eI⟩
    exact ⟨rfl, h, tk, m', rfl, F', eI⟩
theorem st8 {C : Nat} {a b : Addr} {nm : Nat → Str} (r : Rm A 12) (F : LF w h₀ G L s.heap m c p16 p107) (c1 : c 1 = some (.ref b)) (c3 : c 3 = some (.ref (C + 111))) (c4 : c 4 = some (.ref a)) (HN : NamesAt G a nm) (HR : RowsAt G b nm) (HK : IsK G C) :
    wpAny (model Challenge.rw_mg0016_01.prog w) A (exec (lS 8) (lE L)) (fun f s' => f = .next ∧ ∃ h' tk' m', s' = { s with heap := h', toks := tk' } ∧ LF w h₀ G L h' m' c p16 p107) (fun _ _ => False) s := by
  refine wpAny_For (rangeE (n := 7) F.bs (wpAny_Constant_int ⟨_, _, rfl, rfl, fun h₁ tk₁ ra t1 t2 t3 k₁ hra hr => ?_⟩))
  refine wpAny_pyIter_range hr (by decide +kernel) ?_
  dsimp only
  have F₁ := F.kp k₁
  have hJ : h₁.get? h₁.objs.size = none := Heap.get?_none_of_le (Nat.le_refl _)
  have X := F₁.far hJ
  have k₂ := kp_push h₁ { cls := .type "range_iterator", data := .fields #[rawInt 0, rawInt (Builtin.Range.rangeSize 0 7 1), rawInt 1] }
  have st0 : rangeSt h₁.objs.size 0 (h₁.push { cls := .type "range_iterator", data := .fields #[rawInt 0, rawInt (Builtin.Range.rangeSize 0 7 1), rawInt 1] }) := by
    rw [show Builtin.Range.rangeSize 0 7 1 = 7 by decide +kernel]
    show IsRangeIter _ _ _ _ _
    simpa using Heap.get?_push_size _ rfl
  generalize h₁.push { cls := .type "range_iterator", data := .fields #[rawInt 0, rawInt (Builtin.Range.rangeSize 0 7 1), rawInt 1] } = h₂ at k₂ st0 ⊢
  generalize h₁.objs.size = J at hJ X st0 ⊢
  have W := LCg.range_walks (prog := Challenge.rw_mg0016_01.prog) (w := w) (A := A) (I := J) r.hh 0 7
  refine floop (s := { s with heap := h₂, toks := tk₁ }) W (fun _ h => ∃ m', LF w h₀ G L h m' c p16 p107) (fun i h st => ⟨_, st⟩) st0 ⟨m, F₁.kp k₂⟩ ?_ ?_ ?_
  · rintro _ h h' ⟨m', F'⟩ k
    exact ⟨m', F'.but X k⟩
  · rintro i v h tk oJ hi ⟨ti, rfl⟩ ⟨m', F'⟩ eJ
    have ev : Value.int (0 + ((i : Nat) : Int)) ti = .int ((i : Nat) : Int) ti := by rw [Int.zero_add]
    rw [ev]
    refine LF.stL (s := { s with heap := h, toks := tk }) F' fun h₃ F₃ sb => ?_
    refine wpAny_execs_cons (rest := []) (wpAny_mono (inner8 (s := { s with heap := h₃, toks := _ }) rfl r F₃ c1 c3 c4 HN HR HK u_eq hi (sb.extBut _ _ X.l eJ) X.l) (fun f s₂ q => ?_) fun _ _ e => e)
    obtain ⟨rfl, h', tk', m'', rfl, F'', eI⟩ := q
    exact wpAny_execs_nil ⟨h', tk', rfl, eI, m'', F''⟩
  · rintro h tk ⟨m', F'⟩
    exact ⟨rfl, h, tk, m', rfl, F'⟩
end
end
end Mine
namespace Mine
section
open PySem PySem.W PySem.W.X PyProof.Rows PySem.Spec PySem.Calls
set_option maxRecDepth 100000
set_option maxHeartbeats 0
set_option linter.unusedVariables false
set_option linter.unusedSimpArgs false
theorem NamesAt.keeps {h h' : Heap} {a : Addr} {nm : Nat → Str} (x : NamesAt h a nm) (k : Kp h h') : NamesAt h' a nm := by
  obtain ⟨ys, e, r⟩ := x; exact ⟨ys, k _ _ e, r⟩
theorem RowsAt.keeps {h h' : Heap} {a : Addr} {nm : Nat → Str} (x : RowsAt h a nm) (k : Kp h h') : RowsAt h' a nm := by
  obtain ⟨ys, e, l, r⟩ := x
  refine ⟨ys, k _ _ e, l, fun i hi => ?_⟩
  obtain ⟨d, e, q⟩ := r i hi
  exact ⟨d, e, q.keeps k⟩
theorem DueAt.keeps {h h' : Heap} {a : Addr} {nm : Nat → Str} (x : DueAt h a nm) (k : Kp h h') : DueAt h' a nm := by
  obtain ⟨ys, e, r⟩ := x; exact ⟨ys, k _ _ e, r⟩
section
variable {w : World} {h₀ G : Heap} {L : Nat} {m : Str → Option Value} {A : Around} {s : Shared}
theorem law_run {l : Addr} {its : Array Value} {Q : Flow → Shared → Prop} (r : Rm A 40) (hd : A.depth ≤ 328) (hu : A.units ≤ 100) (F : LF w h₀ G L s.heap m (fun _ => none) #[] #[]) (hm : m (nn "script") = some (.ref l)) (hl : G.IsList l its) (hz : its.size ≤ 63) (hi : ∀ v ∈ its, ∃ z t, v = .int z t)
    (hQ : ∀ h' tk G' m' c' p16 p107, LF w h₀ G' L h' m' c' p16 p107 → Q (.ret (.bool true)) { s with heap := h', toks := tk }) :
    wpAny (model Challenge.rw_mg0016_01.prog w) A (execs (fdBody (gSt 16)) (lE L)) Q (fun _ _ => False) s := by
  rw [lbody]
  refine wpAny_execs_cons (wpAny_mono (st0 (r.le (by lia)) F hm hl hz hi) (fun f s₁ q => ?_) fun _ _ e => e)
  obtain ⟨a0, rfl, h1, t1, G1, rfl, F1, g1, N0⟩ := q
  refine wpAny_execs_cons (wpAny_mono (st1 (s := { s with heap := h1, toks := t1 }) (a := a0) (r.le (by lia)) F1 rfl N0) (fun f s₁ q => ?_) fun _ _ e => e)
  obtain ⟨a4, nm, rfl, h2, t2, G2, rfl, F2, g2, N4⟩ := q
  refine wpAny_execs_cons (wpAny_mono (st2 (s := { s with heap := h2, toks := t2 }) (a := a4) (r.le (by lia)) F2 rfl N4) (fun f s₁ q => ?_) fun _ _ e => e)
  obtain ⟨a1, rfl, h3, t3, G3, rfl, F3, g3, N1⟩ := q
  refine wpAny_execs_cons (wpAny_mono (st3 (s := { s with heap := h3, toks := t3 }) r.hh hd hu F3) (fun f s₁ q => ?_) fun _ _ e => e)
  obtain ⟨C, p16, rfl, h4, t4, G4, rfl, F4, g4, NK⟩ := q
  refine wpAny_execs_cons (wpAny_mono (st4 (s := { s with heap := h4, toks := t4 }) (b := a1) (nm := nm) (r.le (by lia)) F4 rfl (N1.keeps g4)) (fun f s₁ q => ?_) fun _ _ e => e)
  obtain ⟨a2, rfl, h5, t5, G5, rfl, F5, g5, N2⟩ := q
  have N4' : NamesAt G5 a4 nm := ((N4.keeps g3).keeps g4).keeps g5
  have N1' : RowsAt G5 a1 nm := (N1.keeps g4).keeps g5
  have NK' : IsK G5 C := NK.keeps g5
  refine wpAny_execs_cons (wpAny_mono (st5 (s := { s with heap := h5, toks := t5 }) (C := C) (a := a4) (d := a2) (nm := nm) (r.le (by lia)) F5 hm rfl rfl rfl N4' NK' N2) (fun f s₁ q => ?_) fun _ _ e => e)
  obtain ⟨cv, rfl, h6, t6, G6, rfl, F6, g6, _⟩ := q
  refine wpAny_execs_cons (wpAny_mono (st6 (s := { s with heap := h6, toks := t6 }) (b := a1) (d := a2) (nm := nm) (r.le (by lia)) F6 rfl rfl (N1'.keeps g6) (N2.keeps g6)) (fun f s₁ q => ?_) fun _ _ e => e)
  obtain ⟨g, tg, hg, rfl, h7, t7, G7, rfl, F7, g7, _⟩ := q
  refine wpAny_execs_cons (wpAny_mono (st7 (s := { s with heap := h7, toks := t7 }) (C := C) (a := a4) (d := a2) (g := g) (nm := nm) (r.le (by lia)) F7 u_eq hg rfl rfl rfl ((N4'.keeps g6).keeps g7) ((NK'.keeps g6).keeps g7) ((N2.keeps g6).keeps g7)) (fun f s₁ q => ?_) fun _ _ e => e)
  obtain ⟨p107, rfl, h8, t8, G8, rfl, F8, g8, _⟩ := q
  refine wpAny_execs_cons (wpAny_mono (st8 (s := { s with heap := h8, toks := t8 }) (C := C) (a := a4) (b := a1) (nm := nm) (r.le (by lia)) F8 rfl rfl rfl (((N4'.keeps g6).keeps g7).keeps g8) (((N1'.keeps g6).keeps g7).keeps g8) (((NK'.keeps g6).keeps g7).keeps g8)) (fun f s₁ q => ?_) fun _ _ e => e)
  obtain ⟨rfl, h9, t9, m9, rfl, F9⟩ := q
  refine wpAny_execs_cons (rest := []) (wpAny_Return_some (wpAny_Constant_bool ?_))
  exact hQ h9 _ _ _ _ _ _ F9
end
end
end Mine
namespace Mine
section
open PySem PySem.W PySem.W.X PyProof.Rows PySem.Spec PySem.Calls
set_option maxRecDepth 100000
set_option maxHeartbeats 0
set_option linter.unusedVariables false
set_option linter.unusedSimpArgs false
theorem LF.oldK {w : World} {h₀ G : Heap} {L : Nat} {h : Heap} {m : Str → Option Value} {c : Nat → Option Value} {p16 p107 : Array Value} (F : LF w h₀ G L h m c p16 p107) (X : (KF w.params).In h₀) (t16 : h₀.get? 16 = some (tableObj #[])) (t107 : h₀.get? 107 = some (tableObj #[])) : OldK h₀ h := by
  have a16 : h₀.TableAt 20 16 #[] := table_at (X 20 _ rfl) rfl rfl t16 rfl
  have a107 : h₀.TableAt 109 107 #[] := table_at (X 109 _ rfl) rfl rfl t107 rfl
  refine ⟨fun b o e => ?_, fun b o e => ?_⟩
  · by_cases q1 : b = 16
    · subst q1
      rw [t16] at e
      cases e
      exact .inr (.inl ⟨a16.isCodeTable, rfl, #[], p16, rfl, F.t16.trans (by simp [tableObj])⟩)
    · by_cases q2 : b = 107
      · subst q2
        rw [t107] at e
        cases e
        exact .inr (.inl ⟨a107.isCodeTable, rfl, #[], p107, rfl, F.t107.trans (by simp [tableObj])⟩)
      · exact .inl (F.gh _ _ (F.og b o q1 q2 e))
  · by_cases q1 : b = 16
    · exact ⟨_, q1 ▸ F.t16⟩
    · by_cases q2 : b = 107
      · exact ⟨_, q2 ▸ F.t107⟩
      · exact ⟨o, F.gh _ _ (F.og b o q1 q2 e)⟩
section
variable {w : World} {A : Around} {s : Shared} {R : Result → Shared → Prop}
/-- law's frame at its start -/
theorem start_ {h1 : Heap} {L : Nat} {m : Str → Option Value} (X : Bs w s.heap) (t16 : s.heap.get? 16 = some (tableObj #[])) (t107 : s.heap.get? 107 = some (tableObj #[])) (m4 : ∃ sl4, s.heap.get? 4 = some ⟨.type "module", some 0, .plain, sl4⟩) (k : Kp s.heap h1) (hL : s.heap.objs.size ≤ L) (ns : h1.Ns L m)
    (cl : ∀ i, i < 5 → h1.IsCell (L + 1 + i) none) : ∃ G, LF w s.heap G L h1 m (fun _ => none) #[] #[] ∧ ∀ b o, b ≠ 16 → b ≠ 107 → s.heap.get? b = some o → G.get? b = some o := by
  have lt : ∀ (b : Nat) o, s.heap.get? b = some o → @LT.lt Nat _ b L := fun b o e => Nat.lt_of_lt_of_le (ltS e) hL
  obtain ⟨o110, e110⟩ := kf110 w.params
  have l110 := lt _ _ (X.X _ _ e110)
  have og : ∀ (b : Nat) o, b ≠ 16 → b ≠ 107 → s.heap.get? b = some o → (sub h1 fun b => decide (b < L ∨ L + 5 < b) && (decide (b ≠ 16) && decide (b ≠ 107))).get? b = some o := fun b o q1 q2 e =>
    sub_get (k _ _ e) (by rw [decide_eq_true (.inl (lt b o e)), decide_eq_true q1, decide_eq_true q2]; rfl)
  have no : ∀ b : Nat, (L ≤ b ∧ b ≤ L + 5) → (sub h1 fun b => decide (b < L ∨ L + 5 < b) && (decide (b ≠ 16) && decide (b ≠ 107))).get? b = none := fun b hb =>
    sub_none (by rw [decide_eq_false (by lia)]; rfl)
  refine ⟨_, ⟨ns, of_sub, no L (by lia), cl, fun i hi => no (L + 1 + i) (by have hi' : @LT.lt Nat _ i 5 := hi; lia), k _ _ t16, k _ _ t107, sub_none (by simp), sub_none (by simp), og, ⟨fun a o e => og a o (fun q => ?_) (fun q => ?_) (X.X a o e), ?_⟩, ?_, by lia⟩, og⟩
  · rw [q, kf16] at e; cases e
  · rw [q, kf107] at e; cases e
  · obtain ⟨mb, hb, eb⟩ := X.B
    exact ⟨mb, hb.at' fun o e => og 0 o (by decide) (by decide) e, eb⟩
  · obtain ⟨sl4, e⟩ := m4
    exact ⟨sl4, og 4 _ (by decide) (by decide) e⟩
theorem law_call {l : Addr} {its : Array Value} (r : Rm A 41) (hd : A.depth + 1 ≤ 328) (hu : A.units + 3 ≤ 100) (X : Bs w s.heap) (t16 : s.heap.get? 16 = some (tableObj #[])) (t107 : s.heap.get? 107 = some (tableObj #[])) (m4 : ∃ sl4, s.heap.get? 4 = some ⟨.type "module", some 0, .plain, sl4⟩)
    (hl : s.heap.IsList l its) (hz : its.size ≤ 63) (hi : ∀ v ∈ its, ∃ z t, v = .int z t) (hR : ∀ h' tk, OldK s.heap h' → R (.ok (.ret (.bool true))) { s with heap := h', toks := tk }) :
    codeAny (model Challenge.rw_mg0016_01.prog w) A (.call (.ref 110) ⟨[.ref l], []⟩) R s := by
  have lo : ∀ a, s.heap.get? a = some (tableObj #[]) → l ≠ a := fun a e q => by
    obtain ⟨o, e', hc, _⟩ := hl
    rw [q, e] at e'
    cases e'
    cases hc
  refine codeAny_call_function (fd := fdTop 16 109 lm) (body := fdBody (gSt 16)) r.room (X.X 110 ⟨.type "function", none, .func (fdTop 16 109 lm), #[]⟩ (by kernel_rfl)) rfl (by kernel_rfl) (by kernel_rfl) rfl ⟨109, _, _, 299, rfl, X.X 109 _ rfl, rfl, by kernel_rfl⟩ ?_
  rw [show bindArgs (fdTop 16 109 lm) ⟨[.ref l], []⟩ = pure [(nn "script", .ref l)] from by kernel_rfl]
  refine wpAny_pure (wpAny_newFunctionEnv_cells (by kernel_rfl) (by intro y hy; rw [List.mem_singleton.mp hy]; exact .inl (by kernel_rfl)) fun env he s' x => ?_)
  have hE : env = lE s.heap.objs.size := he.trans (by kernel_rfl)
  subst hE
  obtain ⟨h1, tk1, rfl⟩ := x.toInCall.same
  have k := x.toInCall.keep
  have hns := x.toInCall.ns
  have hcell := x.cell
  dsimp only at k hns hcell
  obtain ⟨G, F, og⟩ := start_ (m := _) X t16 t107 m4 k (Nat.le_refl _) hns (fun i hi => by
    match i, hi with
    | 0, _ => exact hcell (nn "numbers") _ (by kernel_rfl)
    | 1, _ => exact hcell (nn "rows") _ (by kernel_rfl)
    | 2, _ => exact hcell (nn "due") _ (by kernel_rfl)
    | 3, _ => exact hcell (nn "key") _ (by kernel_rfl)
    | 4, _ => exact hcell (nn "names") _ (by kernel_rfl))
  refine ⟨kf_nolimit F.bs.X, codeAny_func ?_⟩
  refine wpAny_mono (law_run (s := { s with heap := h1, toks := tk1 }) (Q := fun f s' => R (.ok (.ret (match f with | .ret v => v | _ => .none))) s') r.deeper hd hu F (l := l) (its := its) (by kernel_rfl) ?_ hz hi fun h' tk G' m' c' p16 p107 F' => ?_) (fun _ _ q => q) fun _ _ e => e.elim
  · obtain ⟨o, e, q⟩ := hl
    exact ⟨o, og _ _ (lo 16 t16) (lo 107 t107) e, q⟩
  · exact hR h' tk (F'.oldK X.X t16 t107)
end
end
end Mine
namespace Mine
section
open PySem PySem.W PySem.W.X PyProof.Rows PySem.Spec PySem.Calls
set_option maxRecDepth 100000
set_option maxHeartbeats 0
set_option linter.unusedVariables false
set_option linter.unusedSimpArgs false
theorem ints_all : ∀ {vs : List Value} {ns : List Int}, IntsAre vs ns → ∀ v ∈ vs, ∃ z t, v = Value.int z t
  | _, _, .nil, _, hm => nomatch hm
  | _, _, .cons n t r, v, hm => by
    rcases List.mem_cons.mp hm with rfl | hm
    · exact ⟨n, t, rfl⟩
    · exact ints_all r v hm
end
end Mine
open PySem PySem.W PySem.W.X PyProof.Rows PySem.Spec PySem.Calls
set_option maxRecDepth 100000 in
set_option maxHeartbeats 8000000 in
theorem PySem.Challenge.cw_mg0016_01_holds : PySem.Challenge.rw_mg0016_01.Holds := by
  refine Mine.hd ?_
  intro w s₀ s₁ mg mb G Y fa o pm cd doc dV kV ho hd hcd hD hmg hg args vals as hpre hlay hrd hwl hlo
  have KX := km_in_of Y
  have TT := km_tabs_of Y
  refine Ground.open G ?_
  intro T B D TE TW
  wrow_args hpre hlay hrd hwl hlo
  x_fa T KX hmg
  rename_i ns _ _ _ _ _ _ _ l vs _ hL _ _ _ hI _ hc _
  refine enter_call (Mine.law_call (its := vs.toArray) ⟨?_, ?_, rfl⟩ (by decide) (by decide) ⟨KX, mb, T.b, T.builtins⟩ (TT 16 (by simp)) (TT 107 (by simp)) ?_ hL ?_ ?_ fun h' tk old => ?_)
  · decide
  · decide
  · obtain ⟨bm, ob, e1, _, e2, e3, e4, e5⟩ := T.bmain
    have e6 := mg_of KX T.g (n := "__builtins__") (v := .ref 4) (by kernel_rfl)
    rw [e1] at e6
    cases e6
    obtain ⟨oc, od, odt, osl⟩ := ob
    dsimp only at e3 e4 e5
    subst e3 e4 e5
    exact ⟨osl, e2⟩
  · rw [List.size_toArray, hI.length]
    omega
  · intro v hv
    exact Mine.ints_all hI v (by simpa using hv)
  · refine ⟨.inl ⟨_, _, [], rfl, fun _ => rfl, ReadsW.bool true, ?_, fun _ => ⟨List.nodup_nil, fun _ hm => (nomatch hm)⟩⟩, old, rfl, .of_eq hg⟩
    wrow_post
